import JvmDerived
import JvmDerived.Pilot.@@N@@Statement
import JvmDerived.Pilot.@@N@@Code
set_option linter.unusedVariables false
set_option linter.unusedSimpArgs false
namespace Jvm.RoadKit
open Sem ClassFile Op Lib Jvm.Stand Jvm.Free Jvm.LawKit
section New
variable {p : Program} {l : Launch} {e : Env} {R : Room} {s : State} {m : MethodId} {args : Array Value} {below : List Frame} {meth : Method} {c : Code} {T : State} {locs : List Loc} {cells slots : Nat}
theorem retI (X : Stand p l e R s m args below meth c T locs cells slots) (hx : p.tables.exec = Jvm.exec) {pc : Nat} {Ls : Array Slot} {z : Int32} {rest : List Value} (hret : meth.sig.returnType = some .int) (hd : decode c.code pc = .ok (.ireturn, 1)) {fs : List Frame}
    (hl : ∀ (f : JFrame) (acts : List Action), f.method = m → f.locked = none → f.entered = [] → (doReturn e (T.setTop f) acts (some (.int z))).1 = T.setFrames fs) : Steps p.tables e below (T.setTop (mkF m pc Ls (.int z :: rest))) (T.setFrames fs) := by
  have hm' : T.vm.method? m = some meth := X.method'
  have hn : narrow .int (.int z) = .int z := rfl
  show Steps p.tables e below (T.setTop { method := m, pc := pc, locals := Ls, stack := _ :: rest, locked := none }) _
  jvm_step X.here [X.here.top, hx, hd, hm', hret, hn]
  first | (intro acts; rw [hl _ acts rfl rfl rfl]) | rw [hl _ _ rfl rfl rfl]
  exact Steps.refl _
end New
end Jvm.RoadKit
/- laws to paste: Road.backV, Road.lenW, Road.chN, Road.codOf (cut by pick.py; bodies as the Statement names them) -/
namespace Jvm.Pilot.@@N@@
namespace StrChars
open Jvm Sem ClassFile Op Lib Jvm.Stand Jvm.Free.XT Jvm.Free.ALB Jvm.Free.JM Jvm.Free
open Jvm.Lib.Cold (StaticIs)
/-- a char array whose places are chars -/
def Ch (a : Addr) (A : Cell) (U : State) : Prop := Arr .char a A U ∧ Typed .char A
theorem Ch.mv {a : Addr} {A : Cell} {U U' : State} (h : Ch a A U) (hal : U.vm.Alike U'.vm) (hh : U'.heap = U.heap) : Ch a A U' := ⟨h.1.mv hal hh, h.2⟩
theorem Ch.keep {a : Addr} {A : Cell} {U U' : State} (h : Ch a A U) (hal : U.vm.Alike U'.vm) (hk : U'.heap[a]? = some A) : Ch a A U' := ⟨h.1.keep hal hk, h.2⟩
/-- what place i of a char[]'s cell holds -/
def cv (A : Cell) (i : Nat) : Int32 := match A.slots[i]? with | some (.int x) => x | _ => 0
theorem Ch.get {a : Addr} {A : Cell} {U : State} (h : Ch a A U) {i : Nat} (hi : i < A.slots.size) : A.slots[i]? = some (.int (cv A i)) := by
  have e := Array.getElem?_eq_getElem hi
  have f := h.2 i _ e
  unfold cv; rw [e]
  generalize A.slots[i] = v at f
  cases v <;> simp [fits] at f ⊢
/-- the byte that i2b leaves of a char -/
def lo8 (x : Int32) : Int32 := x.toInt8.toInt32
theorem fits_lo8 (y : Int32) : fits .byte (.int (lo8 y)) = true := by
  have h1 := y.toInt8.le_toInt
  have h2 := y.toInt8.toInt_lt
  simp only [lo8, fits, Bool.and_eq_true, decide_eq_true_eq, Int32.le_iff_toInt_le, Int8.toInt_toInt32, show (-128 : Int32).toInt = -128 from by decide, show (127 : Int32).toInt = 127 from by decide]
  omega
/-- A' is A but that each place j of lo .. hi - 1 holds f j -/
def Laid (A A' : Cell) (lo hi : Nat) (f : Nat → Value) : Prop := A'.cls = A.cls ∧ A'.vm = A.vm ∧ A'.slots.size = A.slots.size ∧ ∀ i, A'.slots[i]? = if lo ≤ i ∧ i < hi then some (f i) else A.slots[i]?
theorem Laid.zero (A : Cell) (lo : Nat) (f : Nat → Value) : Laid A A lo (lo + 0) f := ⟨rfl, rfl, rfl, fun i => by rw [if_neg (by omega)]⟩
theorem Laid.step {A Ak : Cell} {lo k : Nat} {f : Nat → Value} {v : Value} (h : Laid A Ak lo k f) (hlo : lo ≤ k) (hk : k < Ak.slots.size) (hv : v = f k) : Laid A (Ak.setSlot k v) lo (k + 1) f := by
  refine ⟨h.1, h.2.1, by simpa [Cell.setSlot] using h.2.2.1, fun i => ?_⟩
  by_cases e : k = i
  · subst e; rw [Cell.slots_setSlot_self v hk, if_pos (by omega), hv]
  · rw [Cell.slots_setSlot_ne v e, h.2.2.2 i]
    by_cases q : lo ≤ i ∧ i < k
    · rw [if_pos q, if_pos (by omega)]
    · rw [if_neg q, if_neg (by omega)]
def U16 : String := "java/lang/StringUTF16"
namespace Cmp5
def yN : MethodName := ⟨"java/lang/StringUTF16", "compress", "([CI[BII)I"⟩
abbrev yB : ByteArray := jdk_52_method_21_code
theorem d0 : decode yB 0 = .ok (.iconst 0, 1) := by decide +kernel
theorem d1 : decode yB 1 = .ok (.istore 5, 2) := by decide +kernel
theorem d3 : decode yB 3 = .ok (.iload 5, 2) := by decide +kernel
theorem d5 : decode yB 5 = .ok (.iload 4, 2) := by decide +kernel
theorem d7 : decode yB 7 = .ok (.if_icmp (.ge) 37, 3) := by decide +kernel
theorem d10 : decode yB 10 = .ok (.aload_n 0, 1) := by decide +kernel
theorem d11 : decode yB 11 = .ok (.iload_n 1, 1) := by decide +kernel
theorem d12 : decode yB 12 = .ok (.caload, 1) := by decide +kernel
theorem d13 : decode yB 13 = .ok (.istore 6, 2) := by decide +kernel
theorem d15 : decode yB 15 = .ok (.iload 6, 2) := by decide +kernel
theorem d17 : decode yB 17 = .ok (.sipush 255, 3) := by decide +kernel
theorem d20 : decode yB 20 = .ok (.if_icmp (.le) 6, 3) := by decide +kernel
theorem d26 : decode yB 26 = .ok (.aload_n 2, 1) := by decide +kernel
theorem d27 : decode yB 27 = .ok (.iload_n 3, 1) := by decide +kernel
theorem d28 : decode yB 28 = .ok (.iload 6, 2) := by decide +kernel
theorem d30 : decode yB 30 = .ok (.i2b, 1) := by decide +kernel
theorem d31 : decode yB 31 = .ok (.bastore, 1) := by decide +kernel
theorem d32 : decode yB 32 = .ok (.iinc 1 1, 3) := by decide +kernel
theorem d35 : decode yB 35 = .ok (.iinc 3 1, 3) := by decide +kernel
theorem d38 : decode yB 38 = .ok (.iinc 5 1, 3) := by decide +kernel
theorem d41 : decode yB 41 = .ok (.goto (-38), 3) := by decide +kernel
theorem d44 : decode yB 44 = .ok (.iload 4, 2) := by decide +kernel
theorem d46 : decode yB 46 = .ok (.ireturn, 1) := by decide +kernel
def site : List Cond := []
def tab : Cond := tabOf yN yB 7 (some .int) site
def P (b : Addr) (A : Cell) (d : Addr) (B : Cell) (o q len : Nat) (args : Array Value) (s : State) : Prop := args = #[.ref b, .int (Int32.ofNat o), .ref d, .int (Int32.ofNat q), .int (Int32.ofNat len)] ∧ Ch b A s ∧ Arr .byte d B s ∧ b ≠ d ∧ o + len ≤ A.slots.size ∧ q + len ≤ B.slots.size ∧ ∀ i, i < len → ¬ 255 < cv A (o + i)
def E (b : Addr) (A : Cell) (d : Addr) (B : Cell) (o q len : Nat) (r : Option Value) (s u : State) : Prop := r = some (.int (Int32.ofNat len)) ∧ ∃ B', Put d B' s u ∧ Laid B B' q (q + len) (fun j => Value.int (lo8 (cv A (o + (j - q)))))
/-- no char of the range above 255: len; the places written hold each char's low byte -/
theorem law (l : Launch) (b : Addr) (A : Cell) (d : Addr) (B : Cell) (o q len : Nat) : Law l yN 5 5 0 0 yB 7 (some .int) site (P b A d B o q len) (E b A d B o q len) (copyLocs d q len) 0 0 := by
  refine Law.of_walk (plainFor_of_name (by decide +kernel)) (by decide +kernel) (by decide +kernel) (by decide) (fun _ _ h => by rw [h.1]; rfl) (fun _ U U' hal hh h => ⟨h.1, h.2.1.mv hal hh, h.2.2.1.mv hal hh, h.2.2.2⟩) (fun r U U' V V' h1 hal h2 h => ⟨h.1, h.2.elim fun B' q => ⟨B', q.1.mv h1 h2, q.2⟩⟩) ?_
  intro p e s m args below meth c s₁ X0 hexec hbytes hml hret hlk hnm hown hh0 W hP
  obtain ⟨rfl, hA, hB, hne, l1, l2, hp⟩ := hP
  have c1 : Steps p.tables e below (s₁.setTop (entryFrame m #[.ref b, .int (Int32.ofNat o), .ref d, .int (Int32.ofNat q), .int (Int32.ofNat len)] 7)) (s₁.setTop (mkF m 0 #[.val (.ref b), .val (.int (Int32.ofNat o)), .val (.ref d), .val (.int (Int32.ofNat q)), .val (.int (Int32.ofNat len)), .unset, .unset] [])) := entry rfl
  have hA0 := hA.1.mv X0.warmed.alike hh0
  have hB0 := hB.mv X0.warmed.alike hh0
  have a31 := hA.1.2.2.2
  have c2 : Steps p.tables e below (s₁.setTop (entryFrame m #[.ref b, .int (Int32.ofNat o), .ref d, .int (Int32.ofNat q), .int (Int32.ofNat len)] 7)) (s₁.setTop (mkF m 3 #[.val (.ref b), .val (.int (Int32.ofNat o)), .val (.ref d), .val (.int (Int32.ofNat q)), .val (.int (Int32.ofNat len)), .val (.int 0), .unset] [])) := c1.trans (by
    refine iconstV X0.here hexec rfl 0 (hb hbytes d0) (by decide) ?_
    refine XS.istore X0.here hexec rfl (hb hbytes d1) rfl rfl ?_
    exact Steps.refl _)
  have loop : ∀ (r i : Nat), i + r = len → ∀ (z : Slot), (z = .unset ∨ ∃ w, z = .val w ∧ w.category = 1) → ∀ (Tl : State) (Bk : Cell), Stand p l e { frames := 0, locals := 0, cells := 0, slots := 0 } s m #[.ref b, .int (Int32.ofNat o), .ref d, .int (Int32.ofNat q), .int (Int32.ofNat len)] below meth c Tl ([] ++ copyLocs d q i) 0 0 → Put d Bk s₁ Tl → Laid B Bk q (q + i) (fun j => Value.int (lo8 (cv A (o + (j - q))))) →
      Steps p.tables e below (s₁.setTop (entryFrame m #[.ref b, .int (Int32.ofNat o), .ref d, .int (Int32.ofNat q), .int (Int32.ofNat len)] 7)) (Tl.setTop (mkF m 3 #[.val (.ref b), .val (.int (Int32.ofNat (o + i))), .val (.ref d), .val (.int (Int32.ofNat (q + i))), .val (.int (Int32.ofNat len)), .val (.int (Int32.ofNat i)), z] [])) → ∃ (T' : State) (B' : Cell) (z' : Slot), Stand p l e { frames := 0, locals := 0, cells := 0, slots := 0 } s m #[.ref b, .int (Int32.ofNat o), .ref d, .int (Int32.ofNat q), .int (Int32.ofNat len)] below meth c T' ([] ++ copyLocs d q len) 0 0 ∧ Put d B' s₁ T' ∧ Laid B B' q (q + len) (fun j => Value.int (lo8 (cv A (o + (j - q))))) ∧
      Steps p.tables e below (s₁.setTop (entryFrame m #[.ref b, .int (Int32.ofNat o), .ref d, .int (Int32.ofNat q), .int (Int32.ofNat len)] 7)) (T'.setTop (mkF m 3 #[.val (.ref b), .val (.int (Int32.ofNat (o + len))), .val (.ref d), .val (.int (Int32.ofNat (q + len))), .val (.int (Int32.ofNat len)), .val (.int (Int32.ofNat len)), z'] [])) := by
    intro r
    induction r with
    | zero =>
      intro i hi z hz Tl Bk Xl pl fl cl
      have hil : i = len := by omega
      rw [hil] at Xl fl cl
      exact ⟨Tl, Bk, z, Xl, pl, fl, cl⟩
    | succ r ih =>
      intro i hi z hz Tl Bk Xl pl fl cl
      have all := X0.warmed.alike.symm.trans Xl.warmed.alike
      have hAl := hA0.keep all (pl.other hne hA0.1)
      have hBk := hB0.like all pl.1 fl.1 fl.2.1 fl.2.2.1
      have hlt : q + i < Bk.slots.size := by rw [fl.2.2.1]; omega
      have c3 : Steps p.tables e below (s₁.setTop (entryFrame m #[.ref b, .int (Int32.ofNat o), .ref d, .int (Int32.ofNat q), .int (Int32.ofNat len)] 7)) (Tl.setTop (mkF m 12 #[.val (.ref b), .val (.int (Int32.ofNat (o + i))), .val (.ref d), .val (.int (Int32.ofNat (q + i))), .val (.int (Int32.ofNat len)), .val (.int (Int32.ofNat i)), z] [.int (Int32.ofNat (o + i)), .ref b])) := cl.trans (by
        refine XS.iload Xl.here hexec rfl (hb hbytes d3) rfl ?_
        refine XS.iload Xl.here hexec rfl (hb hbytes d5) rfl ?_
        refine XS.icmpNo Xl.here hexec rfl (hb hbytes d7) rfl (ii_ge_f (lt32 (by omega) (by omega))) ?_
        refine XS.aloadN Xl.here hexec rfl (hb hbytes d10) rfl rfl ?_
        refine XS.iloadN Xl.here hexec rfl (hb hbytes d11) rfl ?_
        exact Steps.refl _)
      have c4 : Steps p.tables e below (s₁.setTop (entryFrame m #[.ref b, .int (Int32.ofNat o), .ref d, .int (Int32.ofNat q), .int (Int32.ofNat len)] 7)) (Tl.setTop (mkF m 13 #[.val (.ref b), .val (.int (Int32.ofNat (o + i))), .val (.ref d), .val (.int (Int32.ofNat (q + i))), .val (.int (Int32.ofNat len)), .val (.int (Int32.ofNat i)), z] [.int (cv A (o + i))])) := c3.trans (by
        refine Xl.aget hexec hAl rfl (hA.get (i := o + i) (by omega)) rfl rfl (hb hbytes d12) ?_
        exact Steps.refl _)
      have c5 : Steps p.tables e below (s₁.setTop (entryFrame m #[.ref b, .int (Int32.ofNat o), .ref d, .int (Int32.ofNat q), .int (Int32.ofNat len)] 7)) (Tl.setTop (mkF m 15 #[.val (.ref b), .val (.int (Int32.ofNat (o + i))), .val (.ref d), .val (.int (Int32.ofNat (q + i))), .val (.int (Int32.ofNat len)), .val (.int (Int32.ofNat i)), .val (.int (cv A (o + i)))] [])) := c4.trans (by
        refine XS.istoreS Xl.here hexec rfl (hb hbytes d13) rfl rfl hz ?_
        exact Steps.refl _)
      have c6 : Steps p.tables e below (s₁.setTop (entryFrame m #[.ref b, .int (Int32.ofNat o), .ref d, .int (Int32.ofNat q), .int (Int32.ofNat len)] 7)) (Tl.setTop (mkF m 31 #[.val (.ref b), .val (.int (Int32.ofNat (o + i))), .val (.ref d), .val (.int (Int32.ofNat (q + i))), .val (.int (Int32.ofNat len)), .val (.int (Int32.ofNat i)), .val (.int (cv A (o + i)))] [.int (lo8 (cv A (o + i))), .int (Int32.ofNat (q + i)), .ref d])) := c5.trans (by
        refine XS.iload Xl.here hexec rfl (hb hbytes d15) rfl ?_
        refine sipushV Xl.here hexec rfl 255 (hb hbytes d17) (by decide) ?_
        refine XS.icmpYes Xl.here hexec rfl (pc0 := 20) rfl (hb hbytes d20) rfl (ii_le_t (hp i (by omega))) (by decide) rfl ?_
        refine XS.aloadN Xl.here hexec rfl (hb hbytes d26) rfl rfl ?_
        refine XS.iloadN Xl.here hexec rfl (hb hbytes d27) rfl ?_
        refine XS.iload Xl.here hexec rfl (hb hbytes d28) rfl ?_
        refine i2b Xl.here hexec rfl (hb hbytes d30) rfl ?_
        exact Steps.refl _)
      obtain ⟨T7, X7, p7, st7⟩ := Xl.aput hexec hBk rfl hlt rfl (fits_lo8 (cv A (o + i))) (g := (mkF m 31 #[.val (.ref b), .val (.int (Int32.ofNat (o + i))), .val (.ref d), .val (.int (Int32.ofNat (q + i))), .val (.int (Int32.ofNat len)), .val (.int (Int32.ofNat i)), .val (.int (cv A (o + i)))] [.int (lo8 (cv A (o + i))), .int (Int32.ofNat (q + i)), .ref d])) rfl (rest := []) rfl (hb hbytes d31)
      have c8 : Steps p.tables e below (s₁.setTop (entryFrame m #[.ref b, .int (Int32.ofNat o), .ref d, .int (Int32.ofNat q), .int (Int32.ofNat len)] 7)) (T7.setTop (mkF m 32 #[.val (.ref b), .val (.int (Int32.ofNat (o + i))), .val (.ref d), .val (.int (Int32.ofNat (q + i))), .val (.int (Int32.ofNat len)), .val (.int (Int32.ofNat i)), .val (.int (cv A (o + i)))] [])) := c6.trans (st7 _ (Steps.refl _))
      have c9 : Steps p.tables e below (s₁.setTop (entryFrame m #[.ref b, .int (Int32.ofNat o), .ref d, .int (Int32.ofNat q), .int (Int32.ofNat len)] 7)) (T7.setTop (mkF m 3 #[.val (.ref b), .val (.int (Int32.ofNat (o + i) + 1)), .val (.ref d), .val (.int (Int32.ofNat (q + i) + 1)), .val (.int (Int32.ofNat len)), .val (.int (Int32.ofNat i + 1)), .val (.int (cv A (o + i)))] [])) := c8.trans (by
        refine iincV X7.here hexec rfl 1 (hb hbytes d32) (by decide) rfl rfl ?_
        refine iincV X7.here hexec rfl 1 (hb hbytes d35) (by decide) rfl rfl ?_
        refine iincV X7.here hexec rfl 1 (hb hbytes d38) (by decide) rfl rfl ?_
        refine XS.goto X7.here hexec rfl (pc0 := 41) rfl (hb hbytes d41) (by decide) rfl ?_
        exact Steps.refl _)
      have c10 : Steps p.tables e below (s₁.setTop (entryFrame m #[.ref b, .int (Int32.ofNat o), .ref d, .int (Int32.ofNat q), .int (Int32.ofNat len)] 7)) (T7.setTop (mkF m 3 #[.val (.ref b), .val (.int (Int32.ofNat (o + (i + 1)))), .val (.ref d), .val (.int (Int32.ofNat (q + (i + 1)))), .val (.int (Int32.ofNat len)), .val (.int (Int32.ofNat (i + 1))), .val (.int (cv A (o + i)))] [])) := by
        have := c9
        rw [succ32, succ32, succ32] at this
        exact this
      exact ih (i + 1) (by omega) _ (Or.inr ⟨_, rfl, rfl⟩) T7 _ (by rw [copyLocs_step, ← List.append_assoc]; exact X7) (pl.trans p7) (fl.step (by omega) hlt (by simp)) c10
  obtain ⟨T9, B9, z9, X9, p9, f9, g9⟩ := loop len 0 (by omega) .unset (Or.inl rfl) s₁ B (by simpa [copyLocs] using X0) ⟨hB0.1, fun _ _ => rfl, rfl⟩ (Laid.zero _ _ _) c2
  have c11 : Steps p.tables e below (s₁.setTop (entryFrame m #[.ref b, .int (Int32.ofNat o), .ref d, .int (Int32.ofNat q), .int (Int32.ofNat len)] 7)) (T9.setTop (mkF m 46 #[.val (.ref b), .val (.int (Int32.ofNat (o + len))), .val (.ref d), .val (.int (Int32.ofNat (q + len))), .val (.int (Int32.ofNat len)), .val (.int (Int32.ofNat len)), z9] [.int (Int32.ofNat len)])) := g9.trans (by
    refine XS.iload X9.here hexec rfl (hb hbytes d3) rfl ?_
    refine XS.iload X9.here hexec rfl (hb hbytes d5) rfl ?_
    refine XS.icmpYes X9.here hexec rfl (pc0 := 7) rfl (hb hbytes d7) rfl (ii_ge_t (nlt32 (by omega) (Nat.le_refl _))) (by decide) rfl ?_
    refine XS.iload X9.here hexec rfl (hb hbytes d44) rfl ?_
    exact Steps.refl _)
  exact ⟨T9, some (.int (Int32.ofNat len)), _, _, _, X9, by simp, rfl, rfl, (fun h => by cases h), ⟨rfl, B9, p9.from hh0, f9⟩, fun fs hl => c11.trans (X9.ireturnOut hexec hret rfl (Or.inl rfl) (hb hbytes d46) hl)⟩
end Cmp5
namespace Cmp3
def yN : MethodName := ⟨"java/lang/StringUTF16", "compress", "([CII)[B"⟩
abbrev yB : ByteArray := jdk_52_method_16_code
theorem d0 : decode yB 0 = .ok (.iload_n 2, 1) := by decide +kernel
theorem d1 : decode yB 1 = .ok (.newarray .byte, 2) := by decide +kernel
theorem d3 : decode yB 3 = .ok (.astore_n 3, 1) := by decide +kernel
theorem d4 : decode yB 4 = .ok (.aload_n 0, 1) := by decide +kernel
theorem d5 : decode yB 5 = .ok (.iload_n 1, 1) := by decide +kernel
theorem d6 : decode yB 6 = .ok (.aload_n 3, 1) := by decide +kernel
theorem d7 : decode yB 7 = .ok (.iconst 0, 1) := by decide +kernel
theorem d8 : decode yB 8 = .ok (.iload_n 2, 1) := by decide +kernel
theorem d9 : decode yB 9 = .ok (.invokestatic 115, 3) := by decide +kernel
theorem d12 : decode yB 12 = .ok (.istore 4, 2) := by decide +kernel
theorem d14 : decode yB 14 = .ok (.iload 4, 2) := by decide +kernel
theorem d16 : decode yB 16 = .ok (.iload_n 2, 1) := by decide +kernel
theorem d17 : decode yB 17 = .ok (.if_icmp (.eq) 40, 3) := by decide +kernel
theorem d57 : decode yB 57 = .ok (.aload_n 3, 1) := by decide +kernel
theorem d58 : decode yB 58 = .ok (.areturn, 1) := by decide +kernel
def site : List Cond := [.arrayClass .byte, Cmp5.tab] ++ staticW U16 115 Cmp5.yN
def tab : Cond := tabOf yN yB 6 (some (.array .byte)) site
def P (b : Addr) (A : Cell) (o len : Nat) (args : Array Value) (s : State) : Prop := args = #[.ref b, .int (Int32.ofNat o), .int (Int32.ofNat len)] ∧ Ch b A s ∧ o + len ≤ A.slots.size ∧ len ≤ 536870912 ∧ ∀ i, i < len → ¬ 255 < cv A (o + i)
def E (b : Addr) (A : Cell) (o len : Nat) (r : Option Value) (s u : State) : Prop := NewArr .byte "[B" len (fun j => .int (lo8 (cv A (o + j)))) r s u ∧ u.heap.size = s.heap.size + 1
/-- no char of the range above 255: a new byte[] of their low bytes -/
theorem law (l : Launch) (b : Addr) (A : Cell) (o len : Nat) : Law l yN 3 3 1 18 yB 6 (some (.array .byte)) site (P b A o len) (E b A o len) [] 1 len := by
  refine Law.of_walk (plainFor_of_name (by decide +kernel)) (by decide +kernel) (by decide +kernel) (by decide) (fun _ _ h => by rw [h.1]; rfl) (fun _ U U' hal hh h => ⟨h.1, h.2.1.mv hal hh, h.2.2⟩) (fun r U U' V V' h1 hal h2 h => ⟨NewArr.mv r U U' V V' h1 hal h2 h.1, by rw [h1, h2]; exact h.2⟩) ?_
  intro p e s m args below meth c s₁ X0 hexec hbytes hml hret hlk hnm hown hh0 W hP
  obtain ⟨rfl, hA, l1, l2, hp⟩ := hP
  have a31 := hA.1.2.2.2
  have c1 : Steps p.tables e below (s₁.setTop (entryFrame m #[.ref b, .int (Int32.ofNat o), .int (Int32.ofNat len)] 6)) (s₁.setTop (mkF m 0 #[.val (.ref b), .val (.int (Int32.ofNat o)), .val (.int (Int32.ofNat len)), .unset, .unset, .unset] [])) := entry rfl
  have c2 : Steps p.tables e below (s₁.setTop (entryFrame m #[.ref b, .int (Int32.ofNat o), .int (Int32.ofNat len)] 6)) (s₁.setTop (mkF m 1 #[.val (.ref b), .val (.int (Int32.ofNat o)), .val (.int (Int32.ofNat len)), .unset, .unset, .unset] [.int (Int32.ofNat len)])) := c1.trans (by
    refine XS.iloadN X0.here hexec rfl (hb hbytes d0) rfl ?_
    exact Steps.refl _)
  obtain ⟨T3, B3, X3, ba3, bs3, bv3, bh3, bf3, st3⟩ := X0.anew hexec (atype := .byte) (wk W (.arrayClass .byte)) rfl (by show len * 1 ≤ _; omega) (by omega) (g := (mkF m 1 #[.val (.ref b), .val (.int (Int32.ofNat o)), .val (.int (Int32.ofNat len)), .unset, .unset, .unset] [.int (Int32.ofNat len)])) rfl (hb hbytes d1) (rest := []) rfl (Nat.le_refl _) (by show 0 + len ≤ len; omega)
  rw [hh0] at ba3 st3
  have kp3 : XT.Kept s T3 := (XT.Kept.of_eq hh0).push bh3
  have hA3 := hA.keep X3.warmed.alike (kp3 _ _ hA.1.1)
  have hne : b ≠ s.heap.size := hA.1.ne
  have c4 : Steps p.tables e below (s₁.setTop (entryFrame m #[.ref b, .int (Int32.ofNat o), .int (Int32.ofNat len)] 6)) (T3.setTop (mkF m 3 #[.val (.ref b), .val (.int (Int32.ofNat o)), .val (.int (Int32.ofNat len)), .unset, .unset, .unset] [.ref s.heap.size])) := c2.trans (st3 _ (Steps.refl _))
  have c5 : Steps p.tables e below (s₁.setTop (entryFrame m #[.ref b, .int (Int32.ofNat o), .int (Int32.ofNat len)] 6)) (T3.setTop (mkF m 9 #[.val (.ref b), .val (.int (Int32.ofNat o)), .val (.int (Int32.ofNat len)), .val (.ref s.heap.size), .unset, .unset] [.int (Int32.ofNat len), .int 0, .ref s.heap.size, .int (Int32.ofNat o), .ref b])) := c4.trans (by
    refine XS.astoreN X3.here hexec rfl (hb hbytes d3) rfl rfl rfl ?_
    refine XS.aloadN X3.here hexec rfl (hb hbytes d4) rfl rfl ?_
    refine XS.iloadN X3.here hexec rfl (hb hbytes d5) rfl ?_
    refine XS.aloadN X3.here hexec rfl (hb hbytes d6) rfl rfl ?_
    refine iconstV X3.here hexec rfl 0 (hb hbytes d7) (by decide) ?_
    refine XS.iloadN X3.here hexec rfl (hb hbytes d8) rfl ?_
    exact Steps.refl _)
  obtain ⟨v6, T6, X6, E6, g6⟩ := X3.callS hexec (Cmp5.law l b A s.heap.size B3 o 0 len) hown (wks W (staticW U16 115 Cmp5.yN)) (wk W Cmp5.tab) (W := 0) (Nat.le_of_ble_eq_true rfl) (Nat.le_of_ble_eq_true rfl) (Nat.le_refl _) (by show 0 + len + 0 ≤ len; omega) (g := (mkF m 9 #[.val (.ref b), .val (.int (Int32.ofNat o)), .val (.int (Int32.ofNat len)), .val (.ref s.heap.size), .unset, .unset] [.int (Int32.ofNat len), .int (Int32.ofNat 0), .ref s.heap.size, .int (Int32.ofNat o), .ref b])) rfl (by rw [hml]; rfl) c5 (argsL := [.ref b, .int (Int32.ofNat o), .ref s.heap.size, .int (Int32.ofNat 0), .int (Int32.ofNat len)]) (rest := []) rfl rfl (by show 2 * 0 + 0 ≤ _; decide) (hb hbytes d9) (⟨rfl, hA3, ba3, hne, l1, by rw [bs3]; simp, hp⟩)
  obtain ⟨rfl, B6, p6, f6⟩ := E6
  have c7 : Steps p.tables e below (s₁.setTop (entryFrame m #[.ref b, .int (Int32.ofNat o), .int (Int32.ofNat len)] 6)) (T6.setTop (mkF m 12 #[.val (.ref b), .val (.int (Int32.ofNat o)), .val (.int (Int32.ofNat len)), .val (.ref s.heap.size), .unset, .unset] [.int (Int32.ofNat len)])) := g6
  have c8 : Steps p.tables e below (s₁.setTop (entryFrame m #[.ref b, .int (Int32.ofNat o), .int (Int32.ofNat len)] 6)) (T6.setTop (mkF m 58 #[.val (.ref b), .val (.int (Int32.ofNat o)), .val (.int (Int32.ofNat len)), .val (.ref s.heap.size), .val (.int (Int32.ofNat len)), .unset] [.ref s.heap.size])) := c7.trans (by
    refine XS.istore X6.here hexec rfl (hb hbytes d12) rfl rfl ?_
    refine XS.iload X6.here hexec rfl (hb hbytes d14) rfl ?_
    refine XS.iloadN X6.here hexec rfl (hb hbytes d16) rfl ?_
    refine XS.icmpYes X6.here hexec rfl (pc0 := 17) rfl (hb hbytes d17) rfl (ii_eq_t rfl) (by decide) rfl ?_
    refine XS.aloadN X6.here hexec rfl (hb hbytes d57) rfl rfl ?_
    exact Steps.refl _)
  have X8 := X6.wide (L' := []) (cells' := 1) (slots' := len) (fun x hx hlt => by
    simp only [List.nil_append, copyLocs, List.mem_map, List.mem_range] at hx
    obtain ⟨i, -, rfl⟩ := hx
    exact absurd hlt (Nat.lt_irrefl _)) (Nat.le_refl _) (by omega)
  exact ⟨T6, some (.ref s.heap.size), _, _, _, X8, rfl, rfl, rfl, (fun h => by cases h), ⟨⟨rfl, B6, ba3.like (X3.warmed.alike.symm.trans X6.warmed.alike) p6.1 f6.1 f6.2.1 f6.2.2.1, f6.2.1.trans bv3, by rw [X6.warmed.alike.findClass, f6.1]; exact bf3, by rw [f6.2.2.1, bs3]; simp, fun j hj => by rw [f6.2.2.2 j, if_pos (by omega)]; rfl, kp3.put p6 (Nat.le_refl _)⟩, by rw [p6.2.2, bh3, hh0]; simp⟩, fun fs hl => c8.trans (X8.areturnOut hexec rfl hret rfl (hb hbytes d58) hl)⟩
end Cmp3
namespace CodL
def yN : MethodName := ⟨"java/lang/StringUTF16", "coderFromArrayLen", "([BI)B"⟩
abbrev yB : ByteArray := jdk_52_method_15_code
theorem d0 : decode yB 0 = .ok (.iload_n 1, 1) := by decide +kernel
theorem d1 : decode yB 1 = .ok (.aload_n 0, 1) := by decide +kernel
theorem d2 : decode yB 2 = .ok (.arraylength, 1) := by decide +kernel
theorem d3 : decode yB 3 = .ok (.isub, 1) := by decide +kernel
theorem d4 : decode yB 4 = .ok (.bipush 31, 2) := by decide +kernel
theorem d6 : decode yB 6 = .ok (.iushr, 1) := by decide +kernel
theorem d7 : decode yB 7 = .ok (.i2b, 1) := by decide +kernel
theorem d8 : decode yB 8 = .ok (.ireturn, 1) := by decide +kernel
def site : List Cond := []
def tab : Cond := tabOf yN yB 2 (some .byte) site
def P (d : Addr) (B : Cell) (args : Array Value) (s : State) : Prop := args = #[.ref d, .int (Int32.ofNat B.slots.size)] ∧ Arr .byte d B s
def E (r : Option Value) (s u : State) : Prop := XT.PureE (some (.int 0)) r s u
/-- an array as long as the number of chars: LATIN1 -/
theorem law (l : Launch) (d : Addr) (B : Cell) : Law l yN 2 2 0 0 yB 2 (some .byte) site (P d B) E [] 0 0 := by
  refine Law.of_walk (plainFor_of_name (by decide +kernel)) (by decide +kernel) (by decide +kernel) (by decide) (fun _ _ h => by rw [h.1]; rfl) (fun _ U U' hal hh h => ⟨h.1, h.2.mv hal hh⟩) (fun r U U' V V' h1 hal h2 h => XT.PureE.mv r U U' V V' h1 hal h2 h) ?_
  intro p e s m args below meth c s₁ X0 hexec hbytes hml hret hlk hnm hown hh0 W hP
  obtain ⟨rfl, hB⟩ := hP
  have hB0 := hB.mv X0.warmed.alike hh0
  have c1 : Steps p.tables e below (s₁.setTop (entryFrame m #[.ref d, .int (Int32.ofNat B.slots.size)] 2)) (s₁.setTop (mkF m 0 #[.val (.ref d), .val (.int (Int32.ofNat B.slots.size))] [])) := entry rfl
  have c2 : Steps p.tables e below (s₁.setTop (entryFrame m #[.ref d, .int (Int32.ofNat B.slots.size)] 2)) (s₁.setTop (mkF m 2 #[.val (.ref d), .val (.int (Int32.ofNat B.slots.size))] [.ref d, .int (Int32.ofNat B.slots.size)])) := c1.trans (by
    refine XS.iloadN X0.here hexec rfl (hb hbytes d0) rfl ?_
    refine XS.aloadN X0.here hexec rfl (hb hbytes d1) rfl rfl ?_
    exact Steps.refl _)
  have c3 : Steps p.tables e below (s₁.setTop (entryFrame m #[.ref d, .int (Int32.ofNat B.slots.size)] 2)) (s₁.setTop (mkF m 8 #[.val (.ref d), .val (.int (Int32.ofNat B.slots.size))] [.int (lo8 (ushr (Int32.ofNat B.slots.size - Int32.ofNat B.slots.size) 31))])) := c2.trans (by
    refine X0.alen hexec hB0 rfl rfl (hb hbytes d2) ?_
    refine XS.isub X0.here hexec rfl (hb hbytes d3) rfl ?_
    refine bipushV X0.here hexec rfl 31 (hb hbytes d4) (by decide) ?_
    refine iushr X0.here hexec rfl (hb hbytes d6) rfl ?_
    refine i2b X0.here hexec rfl (hb hbytes d7) rfl ?_
    exact Steps.refl _)
  have e0 : lo8 (ushr (Int32.ofNat B.slots.size - Int32.ofNat B.slots.size) 31) = 0 := by rw [Int32.sub_self]; decide
  rw [e0] at c3
  exact ⟨s₁, some (.int 0), _, _, _, X0, rfl, rfl, rfl, (fun h => by cases h), ⟨rfl, hh0⟩, fun fs hl => c3.trans (X0.ireturnOut hexec hret rfl (Or.inr (Or.inr (Or.inl rfl))) (hb hbytes d8) hl)⟩
end CodL
/-- the String at a is Latin-1 over a new byte[] (the heap's one new cell): the low bytes of the len chars of A from o on; every cell but a is kept -/
def Got (a : Addr) (D : Cell) (fV fC : Field) (A : Cell) (o len : Nat) (r : Option Value) (s u : State) : Prop := r = none ∧ ∃ D' V : Cell, Blank "java/lang/String" a D' u ∧ Same D D' [fV.slot, fC.slot] ∧ D'.slots[fV.slot]? = some (.ref s.heap.size) ∧ D'.slots[fC.slot]? = some (.int 0) ∧ Arr .byte s.heap.size V u ∧ V.vm = .none ∧ u.vm.findClass "[B" = some V.cls ∧ V.slots.size = len ∧ (∀ j, j < len → V.slots[j]? = some (.int (lo8 (cv A (o + j))))) ∧ (∀ (y : Addr) (c : Cell), y ≠ a → s.heap[y]? = some c → u.heap[y]? = some c) ∧ u.heap.size = s.heap.size + 1
theorem Got.mv {a : Addr} {D A : Cell} {fV fC : Field} {o len : Nat} : ∀ r (U U' V V' : State), U'.heap = U.heap → V.vm.Alike V'.vm → V'.heap = V.heap → Got a D fV fC A o len r U V → Got a D fV fC A o len r U' V' :=
  fun r U U' V V' h1 hal h2 ⟨e0, D', X, a1, a2, a3, a4, a5, a6, a7, a8, a9, a10, a11⟩ => ⟨e0, D', X, a1.mv hal h2, a2, by rw [h1]; exact a3, a4, by rw [h1]; exact a5.mv hal h2, a6, by rw [hal.findClass]; exact a7, a8, a9, by rw [h1, h2]; exact a10, by rw [h1, h2]; exact a11⟩
namespace New4
def yN : MethodName := ⟨"java/lang/String", "<init>", "([CIILjava/lang/Void;)V"⟩
abbrev yB : ByteArray := jdk_42_method_149_code
theorem d0 : decode yB 0 = .ok (.aload_n 0, 1) := by decide +kernel
theorem d1 : decode yB 1 = .ok (.invokespecial 1, 3) := by decide +kernel
theorem d4 : decode yB 4 = .ok (.iload_n 3, 1) := by decide +kernel
theorem d5 : decode yB 5 = .ok (.ifCond (.ne) 22, 3) := by decide +kernel
theorem d27 : decode yB 27 = .ok (.getstatic 38, 3) := by decide +kernel
theorem d30 : decode yB 30 = .ok (.ifCond (.eq) 28, 3) := by decide +kernel
theorem d33 : decode yB 33 = .ok (.aload_n 1, 1) := by decide +kernel
theorem d34 : decode yB 34 = .ok (.iload_n 2, 1) := by decide +kernel
theorem d35 : decode yB 35 = .ok (.iload_n 3, 1) := by decide +kernel
theorem d36 : decode yB 36 = .ok (.invokestatic 177, 3) := by decide +kernel
theorem d39 : decode yB 39 = .ok (.astore 5, 2) := by decide +kernel
theorem d41 : decode yB 41 = .ok (.aload_n 0, 1) := by decide +kernel
theorem d42 : decode yB 42 = .ok (.aload 5, 2) := by decide +kernel
theorem d44 : decode yB 44 = .ok (.iload_n 3, 1) := by decide +kernel
theorem d45 : decode yB 45 = .ok (.invokestatic 47, 3) := by decide +kernel
theorem d48 : decode yB 48 = .ok (.putfield 15, 3) := by decide +kernel
theorem d51 : decode yB 51 = .ok (.aload_n 0, 1) := by decide +kernel
theorem d52 : decode yB 52 = .ok (.aload 5, 2) := by decide +kernel
theorem d54 : decode yB 54 = .ok (.putfield 9, 3) := by decide +kernel
theorem d57 : decode yB 57 = .ok (.return_, 1) := by decide +kernel
def site : List Cond := [.fieldLink "java/lang/String" 38 "java/lang/String" "COMPACT_STRINGS" "Z", Cmp3.tab, CodL.tab, .laysFinal "java/lang/String" "java/lang/String" "value" "[B", .fieldLink "java/lang/String" 9 "java/lang/String" "value" "[B", .laysFinal "java/lang/String" "java/lang/String" "coder" "B", .fieldLink "java/lang/String" 15 "java/lang/String" "coder" "B"] ++ objW "java/lang/String" 1 ++ staticW "java/lang/String" 177 Cmp3.yN ++ staticW "java/lang/String" 47 CodL.yN
def tab : Cond := tabOf yN yB 6 none site
def P (a : Addr) (D : Cell) (fV fC : Field) (b : Addr) (A : Cell) (z : Int32) (o len : Nat) (args : Array Value) (s : State) : Prop := args = #[.ref a, .ref b, .int (Int32.ofNat o), .int (Int32.ofNat len), .null] ∧ Blank "java/lang/String" a D s ∧ Found "java/lang/String" "value" "[B" fV s ∧ Found "java/lang/String" "coder" "B" fC s ∧ Ch b A s ∧ StaticIs s "java/lang/String" "COMPACT_STRINGS" "Z" (.int z) ∧ ¬ z = 0 ∧ 0 < len ∧ o + len ≤ A.slots.size ∧ len ≤ 536870912 ∧ ∀ i, i < len → ¬ 255 < cv A (o + i)
def E (a : Addr) (D : Cell) (fV fC : Field) (A : Cell) (o len : Nat) (r : Option Value) (s u : State) : Prop := Got a D fV fC A o len r s u
/-- len > 0, no char of the range above 255: a Latin-1 String of their low bytes -/
theorem law (l : Launch) (a : Addr) (D : Cell) (fV fC : Field) (b : Addr) (A : Cell) (z : Int32) (o len : Nat) : Law l yN 5 4 2 35 yB 6 none site (P a D fV fC b A z o len) (E a D fV fC A o len) [⟨a, fC.slot⟩, ⟨a, fV.slot⟩] 1 len := by
  refine Law.of_walk (plainFor_of_name (by decide +kernel)) (by decide +kernel) (by decide +kernel) (by decide) (fun _ _ h => by rw [h.1]; rfl) (fun _ U U' hal hh h => ⟨h.1, h.2.1.mv hal hh, h.2.2.1.al hal, h.2.2.2.1.al hal, h.2.2.2.2.1.mv hal hh, h.2.2.2.2.2.1.there hal hh, h.2.2.2.2.2.2⟩) (fun r U U' V V' h1 hal h2 h => Got.mv r U U' V V' h1 hal h2 h) ?_
  intro p e s m args below meth c s₁ X0 hexec hbytes hml hret hlk hnm hown hh0 W hP
  obtain ⟨rfl, hB, f1, f2, hA, s1, hz, l0, l1, l2, hp⟩ := hP
  have a31 := hA.1.2.2.2
  have c1 : Steps p.tables e below (s₁.setTop (entryFrame m #[.ref a, .ref b, .int (Int32.ofNat o), .int (Int32.ofNat len), .null] 6)) (s₁.setTop (mkF m 0 #[.val (.ref a), .val (.ref b), .val (.int (Int32.ofNat o)), .val (.int (Int32.ofNat len)), .val .null, .unset] [])) := entry rfl
  have c2 : Steps p.tables e below (s₁.setTop (entryFrame m #[.ref a, .ref b, .int (Int32.ofNat o), .int (Int32.ofNat len), .null] 6)) (s₁.setTop (mkF m 1 #[.val (.ref a), .val (.ref b), .val (.int (Int32.ofNat o)), .val (.int (Int32.ofNat len)), .val .null, .unset] [.ref a])) := c1.trans (by
    refine XS.aloadN X0.here hexec rfl (hb hbytes d0) rfl rfl ?_
    exact Steps.refl _)
  obtain ⟨T3, X3, q3, st3⟩ := X0.oinit hexec hown (wks W (objW "java/lang/String" 1)) (g := (mkF m 1 #[.val (.ref a), .val (.ref b), .val (.int (Int32.ofNat o)), .val (.int (Int32.ofNat len)), .val .null, .unset] [.ref a])) rfl (by rw [hml]; rfl) (rest := []) rfl (hb hbytes d1) (W := 0) (by show 2 * 0 + 0 ≤ _; decide) (Nat.le_of_ble_eq_true rfl) (Nat.le_of_ble_eq_true rfl)
  have hh3 := q3.trans hh0
  have c4 : Steps p.tables e below (s₁.setTop (entryFrame m #[.ref a, .ref b, .int (Int32.ofNat o), .int (Int32.ofNat len), .null] 6)) (T3.setTop (mkF m 27 #[.val (.ref a), .val (.ref b), .val (.int (Int32.ofNat o)), .val (.int (Int32.ofNat len)), .val .null, .unset] [])) := (c2.trans (st3 _ (Steps.refl _))).trans (by
    refine XS.iloadN X3.here hexec rfl (hb hbytes d4) rfl ?_
    refine XS.ifYes X3.here hexec rfl (pc0 := 5) rfl (hb hbytes d5) rfl (i0_ne_t (nz32 (by omega) l0)) (by decide) rfl ?_
    exact Steps.refl _)
  obtain ⟨T5, X5, q5, st5⟩ := X3.sget hexec hown (wk W (.fieldLink "java/lang/String" 38 "java/lang/String" "COMPACT_STRINGS" "Z")) s1 (fun _ _ h => by rw [hh3]; exact h) (g := (mkF m 27 #[.val (.ref a), .val (.ref b), .val (.int (Int32.ofNat o)), .val (.int (Int32.ofNat len)), .val .null, .unset] [])) rfl (hb hbytes d27)
  have hh5 := q5.trans hh3
  have c6 : Steps p.tables e below (s₁.setTop (entryFrame m #[.ref a, .ref b, .int (Int32.ofNat o), .int (Int32.ofNat len), .null] 6)) (T5.setTop (mkF m 30 #[.val (.ref a), .val (.ref b), .val (.int (Int32.ofNat o)), .val (.int (Int32.ofNat len)), .val .null, .unset] [.int z])) := c4.trans (st5 _ (Steps.refl _))
  have c7 : Steps p.tables e below (s₁.setTop (entryFrame m #[.ref a, .ref b, .int (Int32.ofNat o), .int (Int32.ofNat len), .null] 6)) (T5.setTop (mkF m 36 #[.val (.ref a), .val (.ref b), .val (.int (Int32.ofNat o)), .val (.int (Int32.ofNat len)), .val .null, .unset] [.int (Int32.ofNat len), .int (Int32.ofNat o), .ref b])) := c6.trans (by
    refine XS.ifNo X5.here hexec rfl (hb hbytes d30) rfl (i0_eq_f hz) ?_
    refine XS.aloadN X5.here hexec rfl (hb hbytes d33) rfl rfl ?_
    refine XS.iloadN X5.here hexec rfl (hb hbytes d34) rfl ?_
    refine XS.iloadN X5.here hexec rfl (hb hbytes d35) rfl ?_
    exact Steps.refl _)
  obtain ⟨v8, T8, X8, E8, g8⟩ := X5.callS hexec (Cmp3.law l b A o len) hown (wks W (staticW "java/lang/String" 177 Cmp3.yN)) (wk W Cmp3.tab) (W := 0) (Nat.le_of_ble_eq_true rfl) (Nat.le_of_ble_eq_true rfl) (Nat.le_refl _) (by show 0 + len ≤ len; omega) (g := (mkF m 36 #[.val (.ref a), .val (.ref b), .val (.int (Int32.ofNat o)), .val (.int (Int32.ofNat len)), .val .null, .unset] [.int (Int32.ofNat len), .int (Int32.ofNat o), .ref b])) rfl (by rw [hml]; rfl) c7 (argsL := [.ref b, .int (Int32.ofNat o), .int (Int32.ofNat len)]) (rest := []) rfl rfl (by show 2 * 0 + 0 ≤ _; decide) (hb hbytes d36) (⟨rfl, hA.mv X5.warmed.alike hh5, l1, l2, hp⟩)
  obtain ⟨e8, z8⟩ := E8
  obtain ⟨rfl, N, n1, n2, n3, n4, n5, n6⟩ := NewArr.mv _ T5 s _ _ hh5.symm (Vm.Alike.refl _) rfl e8
  rw [hh5] at z8
  have hB1 := hB.keep X8.warmed.alike (n6 _ _ hB.1)
  have hne : s.heap.size ≠ a := (Nat.ne_of_lt (Array.getElem?_eq_some_iff.mp hB.1).1).symm
  have c9 : Steps p.tables e below (s₁.setTop (entryFrame m #[.ref a, .ref b, .int (Int32.ofNat o), .int (Int32.ofNat len), .null] 6)) (T8.setTop (mkF m 39 #[.val (.ref a), .val (.ref b), .val (.int (Int32.ofNat o)), .val (.int (Int32.ofNat len)), .val .null, .unset] [.ref s.heap.size])) := g8
  have c10 : Steps p.tables e below (s₁.setTop (entryFrame m #[.ref a, .ref b, .int (Int32.ofNat o), .int (Int32.ofNat len), .null] 6)) (T8.setTop (mkF m 45 #[.val (.ref a), .val (.ref b), .val (.int (Int32.ofNat o)), .val (.int (Int32.ofNat len)), .val .null, .val (.ref s.heap.size)] [.int (Int32.ofNat N.slots.size), .ref s.heap.size, .ref a])) := by
    have hc : Steps p.tables e below (s₁.setTop (entryFrame m #[.ref a, .ref b, .int (Int32.ofNat o), .int (Int32.ofNat len), .null] 6)) (T8.setTop (mkF m 45 #[.val (.ref a), .val (.ref b), .val (.int (Int32.ofNat o)), .val (.int (Int32.ofNat len)), .val .null, .val (.ref s.heap.size)] [.int (Int32.ofNat len), .ref s.heap.size, .ref a])) := c9.trans (by
      refine XS.astore X8.here hexec rfl (hb hbytes d39) rfl rfl rfl ?_
      refine XS.aloadN X8.here hexec rfl (hb hbytes d41) rfl rfl ?_
      refine XS.aload X8.here hexec rfl (hb hbytes d42) rfl rfl ?_
      refine XS.iloadN X8.here hexec rfl (hb hbytes d44) rfl ?_
      exact Steps.refl _)
    rw [n4]; exact hc
  obtain ⟨v11, T11, X11, E11, g11⟩ := X8.callS hexec (CodL.law l s.heap.size N) hown (wks W (staticW "java/lang/String" 47 CodL.yN)) (wk W CodL.tab) (W := 1) (Nat.le_of_ble_eq_true rfl) (Nat.le_of_ble_eq_true rfl) (Nat.le_refl _) (by show 0 + len + 0 ≤ len; omega) (g := (mkF m 45 #[.val (.ref a), .val (.ref b), .val (.int (Int32.ofNat o)), .val (.int (Int32.ofNat len)), .val .null, .val (.ref s.heap.size)] [.int (Int32.ofNat N.slots.size), .ref s.heap.size, .ref a])) rfl (by rw [hml]; rfl) c10 (argsL := [.ref s.heap.size, .int (Int32.ofNat N.slots.size)]) (rest := [.ref a]) rfl rfl (by show 2 * 0 + (1 + 0) ≤ _; decide) (hb hbytes d45) (⟨rfl, n1⟩)
  obtain ⟨rfl, q11⟩ := E11
  have hB11 := hB1.mv (X8.warmed.alike.symm.trans X11.warmed.alike) q11
  have c12 : Steps p.tables e below (s₁.setTop (entryFrame m #[.ref a, .ref b, .int (Int32.ofNat o), .int (Int32.ofNat len), .null] 6)) (T11.setTop (mkF m 48 #[.val (.ref a), .val (.ref b), .val (.int (Int32.ofNat o)), .val (.int (Int32.ofNat len)), .val .null, .val (.ref s.heap.size)] [.int 0, .ref a])) := g11
  obtain ⟨T13, X13, p13, bl13, sl13, st13⟩ := X11.finit hexec hown (wk W (.fieldLink "java/lang/String" 15 "java/lang/String" "coder" "B")) (Or.inr ⟨_, (wk W (.laysFinal "java/lang/String" "java/lang/String" "coder" "B"))⟩) (Or.inl ⟨rfl, hnm⟩) f2 (Or.inl rfl) hB11 (t := .byte) (by decide +kernel) rfl (g := (mkF m 48 #[.val (.ref a), .val (.ref b), .val (.int (Int32.ofNat o)), .val (.int (Int32.ofNat len)), .val .null, .val (.ref s.heap.size)] [.int 0, .ref a])) rfl (rest := []) rfl (hb hbytes d48)
  have c14 : Steps p.tables e below (s₁.setTop (entryFrame m #[.ref a, .ref b, .int (Int32.ofNat o), .int (Int32.ofNat len), .null] 6)) (T13.setTop (mkF m 54 #[.val (.ref a), .val (.ref b), .val (.int (Int32.ofNat o)), .val (.int (Int32.ofNat len)), .val .null, .val (.ref s.heap.size)] [.ref s.heap.size, .ref a])) := (c12.trans (st13 _ (Steps.refl _))).trans (by
    refine XS.aloadN X13.here hexec rfl (hb hbytes d51) rfl rfl ?_
    refine XS.aload X13.here hexec rfl (hb hbytes d52) rfl rfl ?_
    exact Steps.refl _)
  obtain ⟨T15, X15, p15, bl15, sl15, st15⟩ := X13.finit hexec hown (wk W (.fieldLink "java/lang/String" 9 "java/lang/String" "value" "[B")) (Or.inr ⟨_, (wk W (.laysFinal "java/lang/String" "java/lang/String" "value" "[B"))⟩) (Or.inl ⟨rfl, hnm⟩) f1 (Or.inl rfl) bl13 (t := (.array .byte)) (by decide +kernel) rfl (g := (mkF m 54 #[.val (.ref a), .val (.ref b), .val (.int (Int32.ofNat o)), .val (.int (Int32.ofNat len)), .val .null, .val (.ref s.heap.size)] [.ref s.heap.size, .ref a])) rfl (rest := []) rfl (hb hbytes d54)
  have c16 : Steps p.tables e below (s₁.setTop (entryFrame m #[.ref a, .ref b, .int (Int32.ofNat o), .int (Int32.ofNat len), .null] 6)) (T15.setTop (mkF m 57 #[.val (.ref a), .val (.ref b), .val (.int (Int32.ofNat o)), .val (.int (Int32.ofNat len)), .val .null, .val (.ref s.heap.size)] [])) := c14.trans (st15 _ (Steps.refl _))
  have ap := apart (Or.inr ⟨_, (wk W (.laysFinal "java/lang/String" "java/lang/String" "value" "[B"))⟩) (Or.inr ⟨_, (wk W (.laysFinal "java/lang/String" "java/lang/String" "coder" "B"))⟩) f1 f2 (t₁ := .array .byte) (t₂ := .byte) (by decide +kernel) (by decide +kernel) (by decide)
  have al := X8.warmed.alike.symm.trans X15.warmed.alike
  have n7 : T11.heap[s.heap.size]? = some N := by rw [q11]; exact n1.1
  exact ⟨T15, none, _, _, _, X15, by simp, rfl, by omega, (fun _ => rfl), ⟨rfl, _, N, bl15, ((Same.refl D _).set _ (by simp)).set _ (by simp), sl15, (Cell.slots_setSlot_ne _ ap).trans sl13, n1.keep al (p15.other hne (p13.other hne n7)), n2, by rw [al.findClass]; exact n3, n4, n5, fun y c h1 h2 => p15.other h1 (p13.other h1 (by rw [q11]; exact n6 y c h2)), by rw [p15.2.2, p13.2.2, q11]; exact z8⟩, fun fs hl => c16.trans (X15.returnOut hexec hret (hb hbytes d57) hl)⟩
end New4
namespace New1
def yN : MethodName := ⟨"java/lang/String", "<init>", "([C)V"⟩
abbrev yB : ByteArray := jdk_42_method_3_code
theorem d0 : decode yB 0 = .ok (.aload_n 0, 1) := by decide +kernel
theorem d1 : decode yB 1 = .ok (.aload_n 1, 1) := by decide +kernel
theorem d2 : decode yB 2 = .ok (.iconst 0, 1) := by decide +kernel
theorem d3 : decode yB 3 = .ok (.aload_n 1, 1) := by decide +kernel
theorem d4 : decode yB 4 = .ok (.arraylength, 1) := by decide +kernel
theorem d5 : decode yB 5 = .ok (.aconst_null, 1) := by decide +kernel
theorem d6 : decode yB 6 = .ok (.invokespecial 27, 3) := by decide +kernel
theorem d9 : decode yB 9 = .ok (.return_, 1) := by decide +kernel
def site : List Cond := [New4.tab] ++ initW "java/lang/String" 27 New4.yN
def tab : Cond := tabOf yN yB 2 none site
def P (a : Addr) (D : Cell) (fV fC : Field) (b : Addr) (A : Cell) (z : Int32) (args : Array Value) (s : State) : Prop := args = #[.ref a, .ref b] ∧ Blank "java/lang/String" a D s ∧ Found "java/lang/String" "value" "[B" fV s ∧ Found "java/lang/String" "coder" "B" fC s ∧ Ch b A s ∧ StaticIs s "java/lang/String" "COMPACT_STRINGS" "Z" (.int z) ∧ ¬ z = 0 ∧ 0 < A.slots.size ∧ A.slots.size ≤ 536870912 ∧ ∀ i, i < A.slots.size → ¬ 255 < cv A i
def E (a : Addr) (D : Cell) (fV fC : Field) (A : Cell) (r : Option Value) (s u : State) : Prop := Got a D fV fC A 0 A.slots.size r s u
/-- new String(chars), not empty, no char above 255: a Latin-1 String of their low bytes -/
theorem law (l : Launch) (a : Addr) (D : Cell) (fV fC : Field) (b : Addr) (A : Cell) (z : Int32) : Law l yN 2 1 3 52 yB 2 none site (P a D fV fC b A z) (E a D fV fC A) [⟨a, fC.slot⟩, ⟨a, fV.slot⟩] 1 A.slots.size := by
  refine Law.of_walk (plainFor_of_name (by decide +kernel)) (by decide +kernel) (by decide +kernel) (by decide) (fun _ _ h => by rw [h.1]; rfl) (fun _ U U' hal hh h => ⟨h.1, h.2.1.mv hal hh, h.2.2.1.al hal, h.2.2.2.1.al hal, h.2.2.2.2.1.mv hal hh, h.2.2.2.2.2.1.there hal hh, h.2.2.2.2.2.2⟩) (fun r U U' V V' h1 hal h2 h => Got.mv r U U' V V' h1 hal h2 h) ?_
  intro p e s m args below meth c s₁ X0 hexec hbytes hml hret hlk hnm hown hh0 W hP
  obtain ⟨rfl, hB, f1, f2, hA, s1, hz, l0, l2, hp⟩ := hP
  have c1 : Steps p.tables e below (s₁.setTop (entryFrame m #[.ref a, .ref b] 2)) (s₁.setTop (mkF m 0 #[.val (.ref a), .val (.ref b)] [])) := entry rfl
  have c2 : Steps p.tables e below (s₁.setTop (entryFrame m #[.ref a, .ref b] 2)) (s₁.setTop (mkF m 6 #[.val (.ref a), .val (.ref b)] [.null, .int (Int32.ofNat A.slots.size), .int 0, .ref b, .ref a])) := c1.trans (by
    refine XS.aloadN X0.here hexec rfl (hb hbytes d0) rfl rfl ?_
    refine XS.aloadN X0.here hexec rfl (hb hbytes d1) rfl rfl ?_
    refine iconstV X0.here hexec rfl 0 (hb hbytes d2) (by decide) ?_
    refine XS.aloadN X0.here hexec rfl (hb hbytes d3) rfl rfl ?_
    refine X0.alen hexec (hA.1.mv X0.warmed.alike hh0) rfl rfl (hb hbytes d4) ?_
    refine XS.aconstNull X0.here hexec rfl (hb hbytes d5) ?_
    exact Steps.refl _)
  obtain ⟨v3, T3, X3, E3, g3⟩ := X0.callN hexec (New4.law l a D fV fC b A z 0 A.slots.size) rfl hown (wks W (initW "java/lang/String" 27 New4.yN)) (W New4.tab (by simp only [site, List.mem_cons, List.mem_append, true_or, or_true])) (W := 0) (Nat.le_of_ble_eq_true rfl) (Nat.le_of_ble_eq_true rfl) (Nat.le_refl _) (by show 0 + A.slots.size ≤ A.slots.size; omega) (g := (mkF m 6 #[.val (.ref a), .val (.ref b)] [.null, .int (Int32.ofNat A.slots.size), .int (Int32.ofNat 0), .ref b, .ref a])) rfl (by rw [hml]; rfl) c2 (argsL := [.ref b, .int (Int32.ofNat 0), .int (Int32.ofNat A.slots.size), .null]) (rest := []) rfl rfl (by show 2 * 0 + 0 ≤ _; decide) (hb hbytes d6) (⟨rfl, hB.mv X0.warmed.alike hh0, f1.al X0.warmed.alike, f2.al X0.warmed.alike, hA.mv X0.warmed.alike hh0, s1.there X0.warmed.alike hh0, hz, l0, by omega, l2, fun i hi => by rw [Nat.zero_add]; exact hp i hi⟩)
  have e0 := Got.mv _ s₁ s _ _ hh0.symm (Vm.Alike.refl _) rfl E3
  obtain rfl := e0.1
  have c4 : Steps p.tables e below (s₁.setTop (entryFrame m #[.ref a, .ref b] 2)) (T3.setTop (mkF m 9 #[.val (.ref a), .val (.ref b)] [])) := g3
  exact ⟨T3, none, _, _, _, X3, by simp, rfl, by omega, (fun _ => rfl), e0, fun fs hl => c4.trans (X3.returnOut hexec hret (hb hbytes d9) hl)⟩
theorem pays {l : Launch} {R : Room} {p : Program} {e : Env} {below : List Frame} {s : State} {sargs : Array Value} {len W : Nat} (a : Addr) (D : Cell) (fV fC : Field) (b : Addr) (A : Cell) (z : Int32) (htab : tab.before sargs s = true) (hfr : 4 ≤ R.frames) (hlo : W + 65 ≤ R.locals) :
    Back l R p e below s sargs yN len W (fun A₁ a₁ => A₁.cells + 1 ≤ R.cells ∧ A₁.slots + A.slots.size ≤ R.slots ∧ P a D fV fC b A z a₁ A₁.U) (fun A₁ _ v₁ B₁ => E a D fV fC A v₁ A₁.U B₁.U ∧ B₁.locs = A₁.locs ++ [⟨a, fC.slot⟩, ⟨a, fV.slot⟩] ∧ B₁.cells = A₁.cells + 1 ∧ B₁.slots = A₁.slots + A.slots.size) :=
  (law l a D fV fC b A z).pays htab hfr (by omega)
end New1
/-- the byte, read back as charAt reads it, is the char -/
theorem lo8_mask {x : Int32} (h0 : ¬ x < 0) (h1 : ¬ 255 < x) : lo8 x &&& 255 = x := by
  have t : ∀ k : Fin 256, lo8 (Int32.ofNat k.val) &&& 255 = Int32.ofNat k.val := by decide +kernel
  rw [Int32.lt_iff_toInt_lt] at h0 h1
  have e0 : (0 : Int32).toInt = 0 := rfl
  have e1 : (255 : Int32).toInt = 255 := rfl
  obtain ⟨k, hk⟩ : ∃ k : Nat, x.toInt = k := ⟨x.toInt.toNat, by omega⟩
  have hx : x = Int32.ofNat k := Int32.toInt_inj.mp (by rw [hk, Int32.toInt_ofNat_small (by omega)])
  rw [hx]
  exact t ⟨k, by omega⟩
end StrChars
namespace StrChars.Road
open Jvm Sem ClassFile Op Lib Jvm.Stand Jvm.Free Jvm.Free.XT
open Jvm.Lib.Cold (StaticIs)
abbrev ST : String := "java/lang/String"
/-- every table word that New1's law asks, flat -/
abbrev words : List Jvm.Cond := [.code New1.yN New1.yB 2 none, .initialized ST, .methodLink ST 27 New4.yN, .instanceMethod New4.yN,
  .code New4.yN New4.yB 6 none, .fieldLink ST 38 ST "COMPACT_STRINGS" "Z", .laysFinal ST ST "value" "[B", .fieldLink ST 9 ST "value" "[B", .laysFinal ST ST "coder" "B", .fieldLink ST 15 ST "coder" "B",
  .methodLink ST 1 Lib.objectInit, .instanceMethod Lib.objectInit, .code Lib.objectInit object_method_1_code 1 none, .methodLink ST 177 Cmp3.yN, .static Cmp3.yN, .methodLink ST 47 CodL.yN, .static CodL.yN,
  .code Cmp3.yN Cmp3.yB 6 (some (.array .byte)), .initialized U16, .arrayClass .byte, .methodLink U16 115 Cmp5.yN, .static Cmp5.yN, .code Cmp5.yN Cmp5.yB 7 (some .int), .code CodL.yN CodL.yB 2 (some .byte)]
theorem tab_of {a : Array Value} {s : State} (h : ∀ w ∈ words, w.before a s = true) : New1.tab.before a s = true := by
  have h5 : Cmp5.tab.before a s = true := unparts (wk h (.code Cmp5.yN Cmp5.yB 7 (some .int))) (wks h (.initialized Cmp5.yN.cls :: Cmp5.site))
  have hc : CodL.tab.before a s = true := unparts (wk h (.code CodL.yN CodL.yB 2 (some .byte))) (wks h (.initialized CodL.yN.cls :: CodL.site))
  have q5 : ∀ w ∈ Cmp5.tab :: words, w.before a s = true := fun w hw => (List.mem_cons.mp hw).elim (fun e => e ▸ h5) (h w)
  have h3 : Cmp3.tab.before a s = true := unparts (wk q5 (.code Cmp3.yN Cmp3.yB 6 (some (.array .byte)))) (wks q5 (.initialized Cmp3.yN.cls :: Cmp3.site))
  have q3 : ∀ w ∈ Cmp3.tab :: CodL.tab :: words, w.before a s = true := fun w hw => (List.mem_cons.mp hw).elim (fun e => e ▸ h3) fun hw => (List.mem_cons.mp hw).elim (fun e => e ▸ hc) (h w)
  have h4 : New4.tab.before a s = true := unparts (wk q3 (.code New4.yN New4.yB 6 none)) (wks q3 (.initialized New4.yN.cls :: New4.site))
  have q4 : ∀ w ∈ New4.tab :: words, w.before a s = true := fun w hw => (List.mem_cons.mp hw).elim (fun e => e ▸ h4) (h w)
  exact unparts (wk q4 (.code New1.yN New1.yB 2 none)) (wks q4 (.initialized New1.yN.cls :: New1.site))
/-- the words ride from the start Z to the walk's own state -/
theorem moved {Z s : State} {a0 args : Array Value} (hZ : Z.Warmed39 s.vm) (hw : ∀ d ∈ words, d.before a0 Z = true) : ∀ d ∈ words, d.before args s = true := fun d hd => by
  have q := hw d hd
  have t : ∀ d ∈ words, d = .arrayClass .byte ∨ (d.onTables && d.keepsFace) = true := by decide +kernel
  rcases t d hd with rfl | t
  · exact RoadKit.mvA hZ q
  · exact RoadKit.mv hZ q t
/-- WHAT COMES BACK, over the tables of the start Z: h the heap at the call, h' behind it -/
def Q (Z : State) (x : Addr) (A : Cell) (h : Heap) (v : Option Value) (h' : Heap) (L : List Loc) : Prop := v = none ∧ (∀ y ∈ L, y.base = x) ∧ RoadKit.Keep h h' [x] ∧ h'.size = h.size + 1 ∧ RoadKit.Exa Z h' x ST ∧ RoadKit.Fld Z h' x ST "value" "[B" (.ref h.size) ∧ RoadKit.Fld Z h' x ST "coder" "B" (.int 0) ∧
  (∃ V : Cell, RoadKit.Arr Z h' h.size V .byte ∧ V.vm = .none ∧ Z.vm.findClass "[B" = some V.cls ∧ V.slots.size = A.slots.size ∧ ∀ j, j < A.slots.size → V.slots[j]? = some (.int (lo8 (cv A j)))) ∧
  ∀ (O n d : String) (w : Value), RoadKit.Fld Z h x O n d w → RoadKit.slotOf Z O n d ≠ RoadKit.slotOf Z ST "value" "[B" → RoadKit.slotOf Z O n d ≠ RoadKit.slotOf Z ST "coder" "B" → RoadKit.Fld Z h' x O n d w
/-- **new String(chars) AT A CALL, IN THE ROAD'S FORM**: for specialBack behind newO: x the fresh String, b the char[] with the cell A -/
theorem back {p : Program} {l : Launch} {e : Env} {R : Room} {s : State} {args : Array Value} {below : List Frame} {len W : Nat} {Z : State} {a0 : Array Value} {h : Heap} (hZ : Z.Warmed39 s.vm) (hw : ∀ d ∈ words, d.before a0 Z = true) {kI : Nat} (wi : (Jvm.Cond.instantiable ST kI).before a0 Z = true)
    {x b : Addr} {A : Cell} {z : Int32} {v0 c0 : Value} (E : RoadKit.Exa Z h x ST) (V : RoadKit.Fld Z h x ST "value" "[B" v0) (C : RoadKit.Fld Z h x ST "coder" "B" c0) (K : RoadKit.Arr Z h b A .char) (hty : Typed .char A) (S : RoadKit.Sta Z h ST "COMPACT_STRINGS" "Z" (.int z)) (hz : ¬ z = 0)
    (l0 : 0 < A.slots.size) (l2 : A.slots.size ≤ 536870912) (hp : ∀ i, i < A.slots.size → ¬ 255 < cv A i) (hfr : 4 ≤ R.frames) (hlo : W + 65 ≤ R.locals) :
    Back l R p e below s args New1.yN len W (fun P a => a = #[.ref x, .ref b] ∧ P.U.heap = h ∧ P.cells + 1 ≤ R.cells ∧ P.slots + A.slots.size ≤ R.slots)
      (fun P _ v B => ∃ L, Q Z x A h v B.U.heap L ∧ B.locs = P.locs ++ L ∧ B.cells = P.cells + 1 ∧ B.slots = P.slots + A.slots.size) := by
  intro m meth c P g ig mk a X hg hsize hdg hW hn hp'
  obtain ⟨rfl, rfl, r1, r2⟩ := hp'
  have al : Z.vm.Alike P.U.vm := hZ.alike.trans X.warmed.alike
  obtain ⟨D, cfV, kV, iV, fV, hD, gV, stV, knV, obV, asV, slV⟩ := id V
  obtain ⟨D', cfC, kC, iC, fC, hD', gC, stC, -, -, asC, slC⟩ := id C
  cases hD.symm.trans hD'
  obtain ⟨D2, kD, e1, e2, e3, e4, e5⟩ := id E
  cases hD.symm.trans e1
  obtain ⟨c2, k2, i1, i2, i3, -⟩ := Cond.instantiable_spec wi
  cases e2.symm.trans i1
  cases e3.symm.trans i2
  obtain ⟨kU, u1, u2⟩ := al.2.2 _ _ e3
  have hB : Blank ST x D P.U := ⟨hD, ⟨knV, fun q hq => by rw [hq] at obV; cases obV⟩, by rw [al.findClass]; exact e2, kU, u1, by rw [u2]; exact i3, by rw [u2]; exact e5 i3⟩
  have F1 : Found ST "value" "[B" fV P.U := ⟨SBG.found_only al ⟨cfV, kV, iV, gV⟩, stV⟩
  have F2 : Found ST "coder" "B" fC P.U := ⟨SBG.found_only al ⟨cfC, kC, iC, gC⟩, stC⟩
  have hA : Ch b A P.U := ⟨⟨K.1, State.isArrayOf_alike al K.2.1, K.2.2, by omega⟩, hty⟩
  have hS : StaticIs P.U ST "COMPACT_STRINGS" "Z" (.int z) := by
    obtain ⟨cfS, iS, kS, fS, st, cS, t1, t2, t3, t4, t5, t6, t7⟩ := S
    exact StaticIs.there (s := { Z with heap := P.U.heap }) ⟨cfS, iS, kS, fS, st, cS, t1, t2, t3, t4, t5, (fun q => by rw [q] at t6; cases t6), t7⟩ al rfl
  obtain ⟨v, B, X', ⟨⟨hv, E', V', q1, q2, q3, q4, q5, q6, q7, q8, q9, q10, q11⟩, hl, hc, hs⟩, st⟩ := New1.pays x D fV fC b A z (tab_of (moved hZ hw)) hfr hlo m meth c P g ig mk _ X hg hsize hdg hW hn ⟨r1, r2, rfl, hB, F1, F2, hA, hS, hz, l0, l2, hp⟩
  have al' : Z.vm.Alike B.U.vm := hZ.alike.trans X'.warmed.alike
  have hsz : E'.slots.size = D.slots.size := by
    obtain ⟨-, -, -, kB, w1, w2, w3⟩ := q1
    obtain ⟨kB', y1, y2⟩ := al'.2.2 _ _ e3
    rw [q2.2.1] at w1
    cases w1.symm.trans y1
    rw [w3, e5 i3, y2]
  refine ⟨v, B, X', ⟨_, ⟨hv, ?_, ⟨by omega, fun y cy hy hn' => q10 y cy (by simpa using hn') hy, fun y cy hy => ?_⟩, q11, ⟨E', _, q1.1, by rw [q2.2.1]; exact e2, by rw [q2.2.1]; exact e3, by rw [q2.1]; exact obV, fun _ => by rw [hsz]; exact e5 i3⟩,
    ⟨E', cfV, kV, iV, fV, q1.1, gV, stV, by rw [q2.1]; exact knV, by rw [q2.1]; exact obV, by rw [q2.2.1]; exact asV, q3⟩, ⟨E', cfC, kC, iC, fC, q1.1, gC, stC, by rw [q2.1]; exact knV, by rw [q2.1]; exact obV, by rw [q2.2.1]; exact asC, q4⟩,
    ⟨V', ⟨q5.1, State.isArrayOf_alike al'.symm q5.2.1, q5.2.2.1⟩, q6, by rw [← al'.findClass]; exact q7, q8, fun j hj => by have := q9 j hj; rwa [Nat.zero_add] at this⟩, fun O n d w F n1 n2 => ?_⟩, hl, hc, hs⟩, st⟩
  · intro y hy
    simp only [List.mem_cons, List.not_mem_nil, or_false] at hy
    rcases hy with rfl | rfl <;> rfl
  · by_cases q : y = x
    · subst q
      cases hD.symm.trans hy
      exact ⟨E', q1.1, q2.2.1, q2.1, hsz⟩
    · exact ⟨cy, q10 y cy q hy, rfl, rfl, rfl⟩
  · obtain ⟨D3, cf, k, i, f, g1, g2, g3, g4, g5, g6, g7⟩ := F
    cases hD.symm.trans g1
    simp only [RoadKit.slotOf, g2, gV, gC, Option.map_some, Option.getD_some] at n1 n2
    exact ⟨E', cf, k, i, f, q1.1, g2, g3, by rw [q2.1]; exact g4, by rw [q2.1]; exact g5, by rw [q2.2.1]; exact g6, by rw [q2.2.2 f.slot (by simp [n1, n2])]; exact g7⟩
end StrChars.Road
namespace StrChars.Road
open Jvm Sem ClassFile Op Lib Jvm.Stand Jvm.Free Jvm.Free.XT
/-- WHAT COMES BACK, the byte[] as a list of values -/
def QA (Z : State) (x : Addr) (zn : Int32) (cs : List Int32) (h : Heap) (v : Option Value) (h' : Heap) (L : List Loc) : Prop := v = none ∧ (∀ y ∈ L, y.base = x) ∧ RoadKit.Keep h h' [x] ∧ h'.size = h.size + 1 ∧ RoadKit.Exa Z h' x ST ∧ RoadKit.Fld Z h' x ST "value" "[B" (.ref h.size) ∧ RoadKit.Fld Z h' x ST "coder" "B" (.int 0) ∧
  (∃ kb, Z.vm.findClass "[B" = some kb ∧ RoadKit.Arv Z h' h.size kb .byte zn (cs.map fun c => .int (lo8 c)) (.int 0)) ∧
  ∀ (O n d : String) (w : Value), RoadKit.Fld Z h x O n d w → RoadKit.slotOf Z O n d ≠ RoadKit.slotOf Z ST "value" "[B" → RoadKit.slotOf Z O n d ≠ RoadKit.slotOf Z ST "coder" "B" → RoadKit.Fld Z h' x O n d w
/-- **new String(chars) AT A CALL, THE ARRAYS AS LISTS**: the char[] at b holds cs, not empty, no char above 255 -/
theorem backArv {p : Program} {l : Launch} {e : Env} {R : Room} {s : State} {args : Array Value} {below : List Frame} {len W : Nat} {Z : State} {a0 : Array Value} {h : Heap} (hZ : Z.Warmed39 s.vm) (hw : ∀ d ∈ words, d.before a0 Z = true) {kI : Nat} (wi : (Jvm.Cond.instantiable ST kI).before a0 Z = true)
    {x b : Addr} {k : ClassId} {zn z : Int32} {cs : List Int32} {dv v0 c0 : Value} (E : RoadKit.Exa Z h x ST) (V : RoadKit.Fld Z h x ST "value" "[B" v0) (C : RoadKit.Fld Z h x ST "coder" "B" c0) (K : RoadKit.Arv Z h b k .char zn (cs.map Value.int) dv) (S : RoadKit.Sta Z h ST "COMPACT_STRINGS" "Z" (.int z)) (hz : ¬ z = 0)
    (hlen : zn.toNatClampNeg = cs.length) (h0 : 0 < cs.length) (hbig : cs.length ≤ 536870912) (hall : ∀ c ∈ cs, ¬ 255 < c) (hfr : 4 ≤ R.frames) (hlo : W + 65 ≤ R.locals) :
    Back l R p e below s args New1.yN len W (fun P a => a = #[.ref x, .ref b] ∧ P.U.heap = h ∧ P.cells + 1 ≤ R.cells ∧ P.slots + cs.length ≤ R.slots)
      (fun P _ v B => ∃ L, QA Z x zn cs h v B.U.heap L ∧ B.locs = P.locs ++ L ∧ B.cells = P.cells + 1 ∧ B.slots = P.slots + cs.length) := by
  obtain ⟨A, K1, K2, K3, K4, K5, K6⟩ := K
  have e : A.slots.size = cs.length := K3.trans hlen
  have hat : ∀ (i : Nat) (hi : i < cs.length), A.slots[i]? = some (.int cs[i]) := fun i hi => by rw [K5 i (by omega)]; simp [List.getD_eq_getElem?_getD, hi]
  have hcv : ∀ (i : Nat) (hi : i < cs.length), cv A i = cs[i] := fun i hi => by unfold cv; rw [hat i hi]
  have hty : Typed .char A := fun i v hv => by
    have hi : i < A.slots.size := (Array.getElem?_eq_some_iff.mp hv).1
    have q := K5 i hi
    rw [hv] at q
    rw [Option.some.inj q]
    exact K6 i hi
  refine Back.mono (back hZ hw wi E V C K1 hty S hz (by omega) (by omega) (fun i hi => by rw [hcv i (by omega)]; exact hall _ (List.getElem_mem _)) hfr hlo) (fun P a hp => ⟨hp.1, hp.2.1, hp.2.2.1, by rw [e]; exact hp.2.2.2⟩) (fun P a v B hp hq => ?_)
  obtain ⟨L, ⟨q1, q2, q3, q4, q5, q6, q7, ⟨V', v1, v2, v3, v4, v5⟩, q9⟩, hl, hc, hs⟩ := hq
  refine ⟨L, ⟨q1, q2, q3, q4, q5, q6, q7, ⟨V'.cls, v3, V', v1, rfl, by rw [v4, e, hlen], K4, fun i hi => ?_, fun i hi => ?_⟩, q9⟩, hl, hc, by rw [hs, e]⟩
  · have hi' : i < cs.length := by omega
    rw [v5 i (by omega), hcv i hi']; simp [List.getD_eq_getElem?_getD, hi']
  · have hi' : i < cs.length := by omega
    simp only [List.getD_eq_getElem?_getD, List.getElem?_map, List.getElem?_eq_getElem hi', Option.map_some, Option.getD_some]
    exact fits_lo8 _
end StrChars.Road
namespace StrChars.Road
open Jvm Sem ClassFile Op Lib Jvm.Stand Jvm.Free Jvm.Free.XT
/-- WHAT COMES BACK, in the writer's own shape -/
def QV (Z : State) (x : Addr) (N : Int32) (bs : List Int32) (h : Heap) (n0 : Nat) (v : Option Value) (h' : Heap) (L : List Loc) : Prop := v = none ∧ RoadKit.Fr n0 L ∧ RoadKit.Keep h h' [x] ∧ RoadKit.Exa Z h' x ST ∧ RoadKit.Fld Z h' x ST "coder" "B" (.int 0) ∧
  ∃ (t : Addr) (kb : ClassId), n0 ≤ t ∧ h.size ≤ t ∧ ¬ t = x ∧ RoadKit.Fld Z h' x ST "value" "[B" (.ref t) ∧ RoadKit.Arv Z h' t kb .byte N (bs.map Value.int) (.int 0)
/-- **new String(chars) AT A CALL, FOR THE WRITER**: a char[] of n known ints, each 0 to 255 -/
theorem backV {p : Program} {l : Launch} {e : Env} {R : Room} {s : State} {args : Array Value} {below : List Frame} {len W : Nat} {Z : State} {a0 : Array Value} {h : Heap} (hZ : Z.Warmed39 s.vm) (hw : ∀ d ∈ words, d.before a0 Z = true) {kI : Nat} (wi : (Jvm.Cond.instantiable ST kI).before a0 Z = true)
    {x b : Addr} {kC : ClassId} {cs bs : List Int32} {d v0 c0 : Value} {z N : Int32} {n n0 : Nat} (hx0 : n0 ≤ x) (hh0 : n0 ≤ h.size) (E : RoadKit.Exa Z h x ST) (V : RoadKit.Fld Z h x ST "value" "[B" v0) (C : RoadKit.Fld Z h x ST "coder" "B" c0) (K : RoadKit.Arv Z h b kC .char N (cs.map Value.int) d) (S : RoadKit.Sta Z h ST "COMPACT_STRINGS" "Z" (.int z)) (hz : ¬ z = 0)
    (hn : cs.length = n) (hN : N = Int32.ofNat n) (l0 : 0 < n) (l2 : n ≤ 4000) (hp : ∀ c ∈ cs, ¬ c < 0 ∧ ¬ (255 : Int32) < c) (hb : bs = cs.map (fun c => c.toInt8.toInt32)) (hfr : 4 ≤ R.frames) (hlo : W + 65 ≤ R.locals) :
    Back l R p e below s args (⟨"java/lang/String", "<init>", "([C)V"⟩ : MethodName) len W (fun P a => a = #[.ref x, .ref b] ∧ P.U.heap = h ∧ P.cells + 1 ≤ R.cells ∧ P.slots + n ≤ R.slots)
      (fun P _ v B => ∃ L, QV Z x N bs h n0 v B.U.heap L ∧ B.locs = P.locs ++ L ∧ B.cells = P.cells + 1 ∧ B.slots = P.slots + n) := by
  subst hn hN hb
  refine Back.mono (backArv hZ hw wi E V C K S hz (n32 (by omega)) l0 (by omega) (fun c hc => (hp c hc).2) hfr hlo) (fun P a hp => hp) (fun P a v B hp hq => ?_)
  obtain ⟨L, ⟨q1, q2, q3, q4, q5, q6, q7, ⟨kb, v1, v2⟩, q9⟩, hl, hc, hs⟩ := hq
  exact ⟨L, ⟨q1, fun y hy => by rw [q2 y hy]; exact hx0, q3, q5, q7, h.size, kb, hh0, Nat.le_refl _, Nat.ne_of_gt E.lt, q6, by rw [List.map_map]; exact v2⟩, hl, hc, hs⟩
end StrChars.Road
namespace StrChars
open Jvm Sem ClassFile Op Lib Jvm.Stand Jvm.Free.XT Jvm.Free.ALB Jvm.Free.JM Jvm.Free
open Jvm.Lib.Cold (StaticIs)
def hi8 (x : Int32) : Int32 := lo8 (x >>> ((8 : Int32) &&& 31))
/-- what StringUTF16.getChar makes of two bytes -/
def pairCh (u v : Int32) : Int32 := (((u &&& 255) <<< ((0 : Int32) &&& 31)) ||| ((v &&& 255) <<< ((8 : Int32) &&& 31))).toUInt32.toUInt16.toUInt32.toInt32
theorem shr0 (c : Int32) : c >>> ((0 : Int32) &&& 31) = c := by
  have e : ((0 : Int32) &&& 31) = 0 := by decide
  rw [e]
  apply Int32.toBitVec_inj.mp
  rw [Int32.toBitVec_shiftRight]
  have e1 : ((0 : Int32).toBitVec.smod 32) = 0#32 := by decide
  rw [e1, BitVec.sshiftRight_eq']
  exact BitVec.sshiftRight_zero
theorem lo8_and (x : Int32) : (lo8 x &&& 255).toBitVec.toNat = x.toBitVec.toNat % 256 := by
  have h : (lo8 x).toBitVec = (x.toBitVec.signExtend 8).signExtend 32 := by rw [lo8, Int8.toBitVec_toInt32, Int32.toBitVec_toInt8]
  rw [Int32.toBitVec_and, BitVec.toNat_and, h]
  have e : ((x.toBitVec.signExtend 8).signExtend 32).toNat % 256 = x.toBitVec.toNat % 256 := by
    rw [BitVec.toNat_signExtend]
    have hlt := x.toBitVec.isLt
    simp only [BitVec.toNat_setWidth, BitVec.toNat_signExtend]
    split <;> split <;> omega
  rw [← e]
  exact Nat.and_two_pow_sub_one_eq_mod _ 8
theorem pair_says {c : Int32} (h0 : ¬ c < 0) (h1 : ¬ 65535 < c) : pairCh (lo8 c) (hi8 c) = c := by
  rw [Int32.lt_iff_toInt_lt] at h0 h1
  have e0 : (0 : Int32).toInt = 0 := rfl
  have e1 : (65535 : Int32).toInt = 65535 := rfl
  have hc : c.toInt = c.toBitVec.toNat := by
    have := c.toBitVec.isLt
    have e : c.toInt = c.toBitVec.toInt := rfl
    rw [e] at h0 h1
    rw [e]
    rw [BitVec.toInt_eq_toNat_cond] at h0 h1 ⊢
    split at h0 <;> split <;> omega
  have hn : c.toBitVec.toNat < 65536 := by omega
  have a1 := lo8_and c
  have a2 : (hi8 c &&& 255).toBitVec.toNat = c.toBitVec.toNat / 256 := by
    rw [hi8, lo8_and]
    have e : ((8 : Int32) &&& 31) = 8 := by decide
    rw [e, Int32.toBitVec_shiftRight]
    have e2 : ((8 : Int32).toBitVec.smod 32) = 8#32 := by decide
    rw [e2, BitVec.sshiftRight_eq', BitVec.toNat_sshiftRight_of_msb_false (by rw [BitVec.msb_eq_false_iff_two_mul_lt]; omega)]
    show c.toBitVec.toNat >>> 8 % 256 = _
    rw [Nat.shiftRight_eq_div_pow]
    omega
  unfold pairCh
  apply Int32.toBitVec_inj.mp
  apply BitVec.eq_of_toNat_eq
  have f0 : ((0 : Int32) &&& 31) = 0 := by decide
  have f8 : ((8 : Int32) &&& 31) = 8 := by decide
  rw [f0, f8]
  have g : (((lo8 c &&& 255) <<< (0 : Int32)) ||| ((hi8 c &&& 255) <<< (8 : Int32))).toBitVec.toNat = c.toBitVec.toNat := by
    rw [Int32.toBitVec_or, Int32.toBitVec_shiftLeft, Int32.toBitVec_shiftLeft]
    have s0 : ((0 : Int32).toBitVec.smod 32) = 0#32 := by decide
    have s8 : ((8 : Int32).toBitVec.smod 32) = 8#32 := by decide
    rw [s0, s8, BitVec.toNat_or]
    simp only [BitVec.shiftLeft_eq', BitVec.toNat_shiftLeft, a1, a2]
    show (c.toBitVec.toNat % 256) <<< 0 % 2 ^ 32 ||| (c.toBitVec.toNat / 256) <<< 8 % 2 ^ 32 = _
    rw [Nat.shiftLeft_zero, Nat.mod_eq_of_lt (show c.toBitVec.toNat % 256 < 2 ^ 32 by omega), Nat.mod_eq_of_lt (show (c.toBitVec.toNat / 256) <<< 8 < 2 ^ 32 by rw [Nat.shiftLeft_eq]; omega), Nat.or_comm, ← Nat.shiftLeft_add_eq_or_of_lt (by omega), Nat.shiftLeft_eq]
    omega
  show BitVec.toNat (((((lo8 c &&& 255) <<< (0 : Int32)) ||| ((hi8 c &&& 255) <<< (8 : Int32))).toBitVec.setWidth 16).setWidth 32) = _
  rw [BitVec.toNat_setWidth, BitVec.toNat_setWidth, g]
  omega
end StrChars
namespace StrChars
open Jvm Sem ClassFile Op Lib Jvm.Stand Jvm.Free.XT Jvm.Free.ALB Jvm.Free.JM Jvm.Free
open Jvm.Lib.Cold (StaticIs)
theorem shr1 {n : Nat} (h : 2 * n < 2 ^ 31) : Int32.ofNat (2 * n) >>> ((1 : Int32) &&& 31) = Int32.ofNat n := by
  have e : ((1 : Int32) &&& 31) = 1 := by decide
  rw [e]
  apply Int32.toBitVec_inj.mp
  rw [Int32.toBitVec_shiftRight]
  have e1 : ((1 : Int32).toBitVec.smod 32) = 1#32 := by decide
  have hm : (BitVec.ofNat 32 (2 * n)).toNat = 2 * n := by rw [BitVec.toNat_ofNat, Nat.mod_eq_of_lt (by omega)]
  rw [e1, BitVec.sshiftRight_eq']
  apply BitVec.eq_of_toNat_eq
  show ((BitVec.ofNat 32 (2 * n)).sshiftRight 1).toNat = (BitVec.ofNat 32 n).toNat
  rw [BitVec.toNat_sshiftRight_of_msb_false (by rw [BitVec.msb_eq_false_iff_two_mul_lt, hm]; omega), hm, BitVec.toNat_ofNat, Nat.shiftRight_eq_div_pow]
  omega
/-- charAt's cast of a byte read back -/
def chr8 (u : Int32) : Int32 := (u &&& 255).toUInt32.toUInt16.toUInt32.toInt32
theorem chr8_lo8 {c : Int32} (h0 : ¬ c < 0) (h1 : ¬ 255 < c) : chr8 (lo8 c) = c := by
  have t : ∀ k : Fin 256, (Int32.ofNat k.val).toUInt32.toUInt16.toUInt32.toInt32 = Int32.ofNat k.val := by decide +kernel
  unfold chr8
  rw [lo8_mask h0 h1]
  rw [Int32.lt_iff_toInt_lt] at h0 h1
  have e0 : (0 : Int32).toInt = 0 := rfl
  have e1 : (255 : Int32).toInt = 255 := rfl
  obtain ⟨k, hk⟩ : ∃ k : Nat, c.toInt = k := ⟨c.toInt.toNat, by omega⟩
  have hx : c = Int32.ofNat k := Int32.toInt_inj.mp (by rw [hk, Int32.toInt_ofNat_small (by omega)])
  rw [hx]
  exact t ⟨k, by omega⟩
theorem narrow_ch {c : Int32} (h0 : ¬ c < 0) (h1 : ¬ 65535 < c) : narrow .char (.int c) = .int c := by
  have q : narrow .char (.int (pairCh (lo8 c) (hi8 c))) = .int (pairCh (lo8 c) (hi8 c)) := narrow_c _
  rwa [pair_says h0 h1] at q
/-- the array's cell V codes the n chars f 0 .. f (n - 1) by the coder cd, as the JDK does: coder 1 just where some char is above 255 -/
def Cod (cd : Int32) (n : Nat) (f : Nat → Int32) (V : Cell) : Prop := (cd = 0 ∧ V.slots.size = n ∧ ∀ j, j < n → V.slots[j]? = some (.int (lo8 (f j))) ∧ ¬ 255 < f j) ∨ (cd = 1 ∧ V.slots.size = 2 * n ∧ (∀ j, j < n → V.slots[2 * j]? = some (.int (lo8 (f j))) ∧ V.slots[2 * j + 1]? = some (.int (hi8 (f j)))) ∧ ∃ j, j < n ∧ 255 < f j)
theorem Cod.cd {cd : Int32} {n : Nat} {f : Nat → Int32} {V : Cell} (h : Cod cd n f V) : cd = 0 ∨ cd = 1 := h.imp (fun q => q.1) fun q => q.1
theorem Cod.len {cd : Int32} {n : Nat} {f : Nat → Int32} {V : Cell} (h : Cod cd n f V) (hs : V.slots.size < 2 ^ 31) : Int32.ofNat V.slots.size >>> (cd &&& 31) = Int32.ofNat n := by
  rcases h with ⟨rfl, h, -⟩ | ⟨rfl, h, -⟩
  · rw [shr0, h]
  · rw [h, shr1 (by omega)]
/-- **x is a String of the n chars f 0 .. f (n - 1)**, Latin-1 or UTF-16; its array at t has the cell V -/
def Txt (x t : Addr) (V : Cell) (cd : Int32) (n : Nat) (f : Nat → Int32) (U : State) : Prop := Exact "java/lang/String" x U ∧ Has x "java/lang/String" "value" "[B" (.ref t) U ∧ Has x "java/lang/String" "coder" "B" (.int cd) U ∧ XT.Arr .byte t V U ∧ Cod cd n f V ∧ ∀ j, j < n → ¬ f j < 0 ∧ ¬ 65535 < f j
theorem Txt.mv {x t : Addr} {V : Cell} {cd : Int32} {n : Nat} {f : Nat → Int32} {U U' : State} (h : Txt x t V cd n f U) (hal : U.vm.Alike U'.vm) (hh : U'.heap = U.heap) : Txt x t V cd n f U' := ⟨h.1.mv hal hh, h.2.1.mv hal hh, h.2.2.1.mv hal hh, h.2.2.2.1.mv hal hh, h.2.2.2.2⟩
namespace Cdr
def yN : MethodName := ⟨"java/lang/String", "coder", "()B"⟩
abbrev yB : ByteArray := jdk_42_method_152_code
theorem d0 : decode yB 0 = .ok (.getstatic 38, 3) := by decide +kernel
theorem d3 : decode yB 3 = .ok (.ifCond (.eq) 10, 3) := by decide +kernel
theorem d6 : decode yB 6 = .ok (.aload_n 0, 1) := by decide +kernel
theorem d7 : decode yB 7 = .ok (.getfield 15, 3) := by decide +kernel
theorem d10 : decode yB 10 = .ok (.goto 4, 3) := by decide +kernel
theorem d14 : decode yB 14 = .ok (.ireturn, 1) := by decide +kernel
def site : List Cond := [.fieldLink "java/lang/String" 38 "java/lang/String" "COMPACT_STRINGS" "Z", .fieldLink "java/lang/String" 15 "java/lang/String" "coder" "B"]
def tab : Cond := tabOf yN yB 1 (some .byte) site
def P (x : Addr) (cd z : Int32) (args : Array Value) (s : State) : Prop := args = #[.ref x] ∧ Has x "java/lang/String" "coder" "B" (.int cd) s ∧ (cd = 0 ∨ cd = 1) ∧ StaticIs s "java/lang/String" "COMPACT_STRINGS" "Z" (.int z) ∧ ¬ z = 0
def E (cd : Int32) (r : Option Value) (s u : State) : Prop := XT.PureE (some (.int cd)) r s u
theorem law (l : Launch) (x : Addr) (cd z : Int32) : Law l yN 1 0 0 0 yB 1 (some .byte) site (P x cd z) (E cd) [] 0 0 := by
  refine Law.of_walk (plainFor_of_name (by decide +kernel)) (by decide +kernel) (by decide +kernel) (by decide) (fun _ _ h => by rw [h.1]; rfl) (fun _ U U' hal hh h => ⟨h.1, h.2.1.mv hal hh, h.2.2.1, h.2.2.2.1.there hal hh, h.2.2.2.2⟩) (fun r U U' V V' h1 hal h2 h => XT.PureE.mv r U U' V V' h1 hal h2 h) ?_
  intro p e s m args below meth c s₁ X0 hexec hbytes hml hret hlk hnm hown hh0 W hP
  obtain ⟨rfl, hx, hc, s1, hz⟩ := hP
  have c1 : Steps p.tables e below (s₁.setTop (entryFrame m #[.ref x] 1)) (s₁.setTop (mkF m 0 #[.val (.ref x)] [])) := entry rfl
  obtain ⟨T2, X2, q2, st2⟩ := X0.sget hexec hown (wk W (.fieldLink "java/lang/String" 38 "java/lang/String" "COMPACT_STRINGS" "Z")) s1 (fun _ _ h => by rw [hh0]; exact h) (g := (mkF m 0 #[.val (.ref x)] [])) rfl (hb hbytes d0)
  have hh2 := q2.trans hh0
  have c3 : Steps p.tables e below (s₁.setTop (entryFrame m #[.ref x] 1)) (T2.setTop (mkF m 7 #[.val (.ref x)] [.ref x])) := (c1.trans (st2 _ (Steps.refl _))).trans (by
    refine XS.ifNo X2.here hexec rfl (hb hbytes d3) rfl (i0_eq_f hz) ?_
    refine XS.aloadN X2.here hexec rfl (hb hbytes d6) rfl rfl ?_
    exact Steps.refl _)
  obtain ⟨T4, X4, q4, st4⟩ := X2.hget hexec hown (wk W (.fieldLink "java/lang/String" 15 "java/lang/String" "coder" "B")) (hx.mv X2.warmed.alike hh2) (g := (mkF m 7 #[.val (.ref x)] [.ref x])) rfl (rest := []) rfl (hb hbytes d7)
  have c5 : Steps p.tables e below (s₁.setTop (entryFrame m #[.ref x] 1)) (T4.setTop (mkF m 14 #[.val (.ref x)] [.int cd])) := (c3.trans (st4 _ (Steps.refl _))).trans (by
    refine XS.goto X4.here hexec rfl (pc0 := 10) rfl (hb hbytes d10) (by decide) rfl ?_
    exact Steps.refl _)
  exact ⟨T4, some (.int cd), _, _, _, X4, rfl, rfl, rfl, (fun h => by cases h), ⟨rfl, q4.trans hh2⟩, fun fs hl => c5.trans (X4.ireturnOut hexec hret (by rcases hc with rfl | rfl <;> rfl) (Or.inr (Or.inr (Or.inl rfl))) (hb hbytes d14) hl)⟩
end Cdr
namespace Len
def yN : MethodName := ⟨"java/lang/String", "length", "()I"⟩
abbrev yB : ByteArray := jdk_42_method_54_code
theorem d0 : decode yB 0 = .ok (.aload_n 0, 1) := by decide +kernel
theorem d1 : decode yB 1 = .ok (.getfield 9, 3) := by decide +kernel
theorem d4 : decode yB 4 = .ok (.arraylength, 1) := by decide +kernel
theorem d5 : decode yB 5 = .ok (.aload_n 0, 1) := by decide +kernel
theorem d6 : decode yB 6 = .ok (.invokevirtual 335, 3) := by decide +kernel
theorem d9 : decode yB 9 = .ok (.ishr, 1) := by decide +kernel
theorem d10 : decode yB 10 = .ok (.ireturn, 1) := by decide +kernel
def site : List Cond := [.fieldLink "java/lang/String" 9 "java/lang/String" "value" "[B", Cdr.tab] ++ virtW "java/lang/String" 335 "java/lang/String" Cdr.yN Cdr.yN
def tab : Cond := tabOf yN yB 1 (some .int) site
def P (x t : Addr) (V : Cell) (cd : Int32) (n : Nat) (f : Nat → Int32) (z : Int32) (args : Array Value) (s : State) : Prop := args = #[.ref x] ∧ Txt x t V cd n f s ∧ StaticIs s "java/lang/String" "COMPACT_STRINGS" "Z" (.int z) ∧ ¬ z = 0
def E (n : Nat) (r : Option Value) (s u : State) : Prop := XT.PureE (some (.int (Int32.ofNat n))) r s u
/-- length() of a String of n chars, in either coding -/
theorem law (l : Launch) (x t : Addr) (V : Cell) (cd : Int32) (n : Nat) (f : Nat → Int32) (z : Int32) : Law l yN 1 0 1 13 yB 1 (some .int) site (P x t V cd n f z) (E n) [] 0 0 := by
  refine Law.of_walk (plainFor_of_name (by decide +kernel)) (by decide +kernel) (by decide +kernel) (by decide) (fun _ _ h => by rw [h.1]; rfl) (fun _ U U' hal hh h => ⟨h.1, h.2.1.mv hal hh, h.2.2.1.there hal hh, h.2.2.2⟩) (fun r U U' V V' h1 hal h2 h => XT.PureE.mv r U U' V V' h1 hal h2 h) ?_
  intro p e s m args below meth c s₁ X0 hexec hbytes hml hret hlk hnm hown hh0 W hP
  obtain ⟨rfl, hx, s1, hz⟩ := hP
  have v31 := hx.2.2.2.1.2.2.2
  have c1 : Steps p.tables e below (s₁.setTop (entryFrame m #[.ref x] 1)) (s₁.setTop (mkF m 1 #[.val (.ref x)] [.ref x])) := Steps.trans (entry rfl) (by
    show Steps p.tables e below (s₁.setTop (mkF m 0 #[.val (.ref x)] [])) _
    refine XS.aloadN X0.here hexec rfl (hb hbytes d0) rfl rfl ?_
    exact Steps.refl _)
  obtain ⟨T2, X2, q2, st2⟩ := X0.hget hexec hown (wk W (.fieldLink "java/lang/String" 9 "java/lang/String" "value" "[B")) (hx.mv X0.warmed.alike hh0).2.1 (g := (mkF m 1 #[.val (.ref x)] [.ref x])) rfl (rest := []) rfl (hb hbytes d1)
  have hh2 := q2.trans hh0
  have hx2 := hx.mv X2.warmed.alike hh2
  have c3 : Steps p.tables e below (s₁.setTop (entryFrame m #[.ref x] 1)) (T2.setTop (mkF m 6 #[.val (.ref x)] [.ref x, .int (Int32.ofNat V.slots.size)])) := (c1.trans (st2 _ (Steps.refl _))).trans (by
    refine X2.alen hexec hx2.2.2.2.1 rfl rfl (hb hbytes d4) ?_
    refine XS.aloadN X2.here hexec rfl (hb hbytes d5) rfl rfl ?_
    exact Steps.refl _)
  obtain ⟨v4, T4, X4, E4, g4⟩ := X2.callV hexec (Cdr.law l x cd z) hown (wks W (virtW "java/lang/String" 335 "java/lang/String" Cdr.yN Cdr.yN)) rfl (by decide) (wk W Cdr.tab) (W := 1) (Nat.le_of_ble_eq_true rfl) (Nat.le_of_ble_eq_true rfl) (Nat.le_refl _) (Nat.le_refl _) (hx2.1.fc X2.warmed.alike) hx2.1.is (g := (mkF m 6 #[.val (.ref x)] [.ref x, .int (Int32.ofNat V.slots.size)])) rfl (by rw [hml]; rfl) c3 (argsL := []) (rest := [.int (Int32.ofNat V.slots.size)]) rfl rfl (by show 2 * 0 + (1 + 0) ≤ _; decide) (hb hbytes d6) (⟨rfl, hx2.2.2.1, hx.2.2.2.2.1.cd, s1.there X2.warmed.alike hh2, hz⟩)
  obtain ⟨rfl, q4⟩ := E4
  have c5 : Steps p.tables e below (s₁.setTop (entryFrame m #[.ref x] 1)) (T4.setTop (mkF m 10 #[.val (.ref x)] [.int (Int32.ofNat V.slots.size >>> (cd &&& 31))])) := Steps.trans g4 (by
    refine ishr X4.here hexec rfl (hb hbytes d9) rfl ?_
    exact Steps.refl _)
  rw [hx.2.2.2.2.1.len v31] at c5
  exact ⟨T4, some (.int (Int32.ofNat n)), _, _, _, X4, rfl, rfl, rfl, (fun h => by cases h), ⟨rfl, q4.trans hh2⟩, fun fs hl => c5.trans (X4.ireturnOut hexec hret rfl (Or.inl rfl) (hb hbytes d10) hl)⟩
theorem pays {l : Launch} {R : Room} {p : Program} {e : Env} {below : List Frame} {s : State} {sargs : Array Value} {len W : Nat} (x t : Addr) (V : Cell) (cd : Int32) (n : Nat) (f : Nat → Int32) (z : Int32) (htab : tab.before sargs s = true) (hfr : 2 ≤ R.frames) (hlo : W + 25 ≤ R.locals) :
    Back l R p e below s sargs yN len W (fun A₁ a₁ => A₁.cells + 0 ≤ R.cells ∧ A₁.slots + 0 ≤ R.slots ∧ P x t V cd n f z a₁ A₁.U) (fun A₁ _ v₁ B₁ => E n v₁ A₁.U B₁.U ∧ B₁.locs = A₁.locs ++ [] ∧ B₁.cells = A₁.cells + 0 ∧ B₁.slots = A₁.slots + 0) :=
  (law l x t V cd n f z).pays htab hfr (by omega)
end Len
namespace IsL
def yN : MethodName := ⟨"java/lang/String", "isLatin1", "()Z"⟩
abbrev yB : ByteArray := jdk_42_method_154_code
theorem d0 : decode yB 0 = .ok (.getstatic 38, 3) := by decide +kernel
theorem d3 : decode yB 3 = .ok (.ifCond (.eq) 14, 3) := by decide +kernel
theorem d6 : decode yB 6 = .ok (.aload_n 0, 1) := by decide +kernel
theorem d7 : decode yB 7 = .ok (.getfield 15, 3) := by decide +kernel
theorem d10 : decode yB 10 = .ok (.ifCond (.ne) 7, 3) := by decide +kernel
theorem d13 : decode yB 13 = .ok (.iconst 1, 1) := by decide +kernel
theorem d14 : decode yB 14 = .ok (.goto 4, 3) := by decide +kernel
theorem d17 : decode yB 17 = .ok (.iconst 0, 1) := by decide +kernel
theorem d18 : decode yB 18 = .ok (.ireturn, 1) := by decide +kernel
def site : List Cond := [.fieldLink "java/lang/String" 38 "java/lang/String" "COMPACT_STRINGS" "Z", .fieldLink "java/lang/String" 15 "java/lang/String" "coder" "B"]
def tab : Cond := tabOf yN yB 1 (some .boolean) site
def P (x : Addr) (cd z : Int32) (args : Array Value) (s : State) : Prop := args = #[.ref x] ∧ Has x "java/lang/String" "coder" "B" (.int cd) s ∧ (cd = 0 ∨ cd = 1) ∧ StaticIs s "java/lang/String" "COMPACT_STRINGS" "Z" (.int z) ∧ ¬ z = 0
def E (cd : Int32) (r : Option Value) (s u : State) : Prop := XT.PureE (some (.int (1 - cd))) r s u
theorem law (l : Launch) (x : Addr) (cd z : Int32) : Law l yN 1 0 0 0 yB 1 (some .boolean) site (P x cd z) (E cd) [] 0 0 := by
  refine Law.of_walk (plainFor_of_name (by decide +kernel)) (by decide +kernel) (by decide +kernel) (by decide) (fun _ _ h => by rw [h.1]; rfl) (fun _ U U' hal hh h => ⟨h.1, h.2.1.mv hal hh, h.2.2.1, h.2.2.2.1.there hal hh, h.2.2.2.2⟩) (fun r U U' V V' h1 hal h2 h => XT.PureE.mv r U U' V V' h1 hal h2 h) ?_
  intro p e s m args below meth c s₁ X0 hexec hbytes hml hret hlk hnm hown hh0 W hP
  obtain ⟨rfl, hx, hc, s1, hz⟩ := hP
  have c1 : Steps p.tables e below (s₁.setTop (entryFrame m #[.ref x] 1)) (s₁.setTop (mkF m 0 #[.val (.ref x)] [])) := entry rfl
  obtain ⟨T2, X2, q2, st2⟩ := X0.sget hexec hown (wk W (.fieldLink "java/lang/String" 38 "java/lang/String" "COMPACT_STRINGS" "Z")) s1 (fun _ _ h => by rw [hh0]; exact h) (g := (mkF m 0 #[.val (.ref x)] [])) rfl (hb hbytes d0)
  have hh2 := q2.trans hh0
  have c3 : Steps p.tables e below (s₁.setTop (entryFrame m #[.ref x] 1)) (T2.setTop (mkF m 7 #[.val (.ref x)] [.ref x])) := (c1.trans (st2 _ (Steps.refl _))).trans (by
    refine XS.ifNo X2.here hexec rfl (hb hbytes d3) rfl (i0_eq_f hz) ?_
    refine XS.aloadN X2.here hexec rfl (hb hbytes d6) rfl rfl ?_
    exact Steps.refl _)
  obtain ⟨T4, X4, q4, st4⟩ := X2.hget hexec hown (wk W (.fieldLink "java/lang/String" 15 "java/lang/String" "coder" "B")) (hx.mv X2.warmed.alike hh2) (g := (mkF m 7 #[.val (.ref x)] [.ref x])) rfl (rest := []) rfl (hb hbytes d7)
  have c5 : Steps p.tables e below (s₁.setTop (entryFrame m #[.ref x] 1)) (T4.setTop (mkF m 10 #[.val (.ref x)] [.int cd])) := c3.trans (st4 _ (Steps.refl _))
  have c6 : Steps p.tables e below (s₁.setTop (entryFrame m #[.ref x] 1)) (T4.setTop (mkF m 18 #[.val (.ref x)] [.int (1 - cd)])) := by
    rcases hc with rfl | rfl
    · exact c5.trans (by
        refine XS.ifNo X4.here hexec rfl (hb hbytes d10) rfl (i0_ne_f rfl) ?_
        refine iconstV X4.here hexec rfl 1 (hb hbytes d13) (by decide) ?_
        refine XS.goto X4.here hexec rfl (pc0 := 14) rfl (hb hbytes d14) (by decide) rfl ?_
        exact Steps.refl _)
    · exact c5.trans (by
        refine XS.ifYes X4.here hexec rfl (pc0 := 10) rfl (hb hbytes d10) rfl (i0_ne_t (by decide)) (by decide) rfl ?_
        refine iconstV X4.here hexec rfl 0 (hb hbytes d17) (by decide) ?_
        exact Steps.refl _)
  exact ⟨T4, some (.int (1 - cd)), _, _, _, X4, rfl, rfl, rfl, (fun h => by cases h), ⟨rfl, q4.trans hh2⟩, fun fs hl => c6.trans (X4.ireturnOut hexec hret (by rcases hc with rfl | rfl <;> rfl) (Or.inr (Or.inl rfl)) (hb hbytes d18) hl)⟩
end IsL
namespace LChA
def yN : MethodName := ⟨"java/lang/StringLatin1", "charAt", "([BI)C"⟩
abbrev yB : ByteArray := jdk_43_method_2_code
theorem d0 : decode yB 0 = .ok (.iload_n 1, 1) := by decide +kernel
theorem d1 : decode yB 1 = .ok (.aload_n 0, 1) := by decide +kernel
theorem d2 : decode yB 2 = .ok (.arraylength, 1) := by decide +kernel
theorem d3 : decode yB 3 = .ok (.invokestatic 9, 3) := by decide +kernel
theorem d6 : decode yB 6 = .ok (.aload_n 0, 1) := by decide +kernel
theorem d7 : decode yB 7 = .ok (.iload_n 1, 1) := by decide +kernel
theorem d8 : decode yB 8 = .ok (.baload, 1) := by decide +kernel
theorem d9 : decode yB 9 = .ok (.sipush 255, 3) := by decide +kernel
theorem d12 : decode yB 12 = .ok (.iand, 1) := by decide +kernel
theorem d13 : decode yB 13 = .ok (.i2c, 1) := by decide +kernel
theorem d14 : decode yB 14 = .ok (.ireturn, 1) := by decide +kernel
def site : List Cond := [JO.Str_checkIndex.tab] ++ staticW "java/lang/StringLatin1" 9 JO.Str_checkIndex.yN
def tab : Cond := tabOf yN yB 2 (some .char) site
def P (t : Addr) (V : Cell) (i : Nat) (u : Int32) (fm : Value) (args : Array Value) (s : State) : Prop := args = #[.ref t, .int (Int32.ofNat i)] ∧ XT.Arr .byte t V s ∧ V.slots[i]? = some (.int u) ∧ (StaticIs s "jdk/internal/util/Preconditions" "SIOOBE_FORMATTER" "Ljava/util/function/BiFunction;" fm ∧ fm.isRef = true)
def E (u : Int32) (r : Option Value) (s w : State) : Prop := XT.PureE (some (.int (chr8 u))) r s w
theorem law (l : Launch) (t : Addr) (V : Cell) (i : Nat) (u : Int32) (fm : Value) : Law l yN 2 2 2 27 yB 2 (some .char) site (P t V i u fm) (E u) [] 0 0 := by
  refine Law.of_walk (plainFor_of_name (by decide +kernel)) (by decide +kernel) (by decide +kernel) (by decide) (fun _ _ h => by rw [h.1]; rfl) (fun _ U U' hal hh h => ⟨h.1, h.2.1.mv hal hh, h.2.2.1, h.2.2.2.1.there hal hh, h.2.2.2.2⟩) (fun r U U' V V' h1 hal h2 h => XT.PureE.mv r U U' V V' h1 hal h2 h) ?_
  intro p e s m args below meth c s₁ X0 hexec hbytes hml hret hlk hnm hown hh0 W hP
  obtain ⟨rfl, hV, hu, s1, rf⟩ := hP
  have v31 := hV.2.2.2
  have hi : i < V.slots.size := (Array.getElem?_eq_some_iff.mp hu).1
  have c1 : Steps p.tables e below (s₁.setTop (entryFrame m #[.ref t, .int (Int32.ofNat i)] 2)) (s₁.setTop (mkF m 0 #[.val (.ref t), .val (.int (Int32.ofNat i))] [])) := entry rfl
  have c2 : Steps p.tables e below (s₁.setTop (entryFrame m #[.ref t, .int (Int32.ofNat i)] 2)) (s₁.setTop (mkF m 3 #[.val (.ref t), .val (.int (Int32.ofNat i))] [.int (Int32.ofNat V.slots.size), .int (Int32.ofNat i)])) := c1.trans (by
    refine XS.iloadN X0.here hexec rfl (hb hbytes d0) rfl ?_
    refine XS.aloadN X0.here hexec rfl (hb hbytes d1) rfl rfl ?_
    refine X0.alen hexec (hV.mv X0.warmed.alike hh0) rfl rfl (hb hbytes d2) ?_
    exact Steps.refl _)
  obtain ⟨v3, T3, X3, E3, g3⟩ := X0.callS hexec (JO.Str_checkIndex.law l (Int32.ofNat i) (Int32.ofNat V.slots.size) fm) hown (wks W (staticW "java/lang/StringLatin1" 9 JO.Str_checkIndex.yN)) (wk W JO.Str_checkIndex.tab) (W := 0) (Nat.le_of_ble_eq_true rfl) (Nat.le_of_ble_eq_true rfl) (Nat.le_refl _) (Nat.le_refl _) (g := (mkF m 3 #[.val (.ref t), .val (.int (Int32.ofNat i))] [.int (Int32.ofNat V.slots.size), .int (Int32.ofNat i)])) rfl (by rw [hml]; rfl) c2 (argsL := [.int (Int32.ofNat i), .int (Int32.ofNat V.slots.size)]) (rest := []) rfl rfl (by show 2 * 0 + 0 ≤ _; decide) (hb hbytes d3) (⟨rfl, rf, s1.there X0.warmed.alike hh0, Int32.ofNat_not_neg (by omega), lt32 v31 hi⟩)
  obtain ⟨rfl, q3⟩ := E3
  have hh3 := q3.trans hh0
  have c4 : Steps p.tables e below (s₁.setTop (entryFrame m #[.ref t, .int (Int32.ofNat i)] 2)) (T3.setTop (mkF m 14 #[.val (.ref t), .val (.int (Int32.ofNat i))] [.int (chr8 u)])) := Steps.trans g3 (by
    refine XS.aloadN X3.here hexec rfl (hb hbytes d6) rfl rfl ?_
    refine XS.iloadN X3.here hexec rfl (hb hbytes d7) rfl ?_
    refine X3.aget hexec (hV.mv X3.warmed.alike hh3) rfl hu rfl rfl (hb hbytes d8) ?_
    refine sipushV X3.here hexec rfl 255 (hb hbytes d9) (by decide) ?_
    refine XS.iand X3.here hexec rfl (hb hbytes d12) rfl ?_
    refine i2c X3.here hexec rfl (hb hbytes d13) rfl ?_
    exact Steps.refl _)
  exact ⟨T3, some (.int (chr8 u)), _, _, _, X3, rfl, rfl, rfl, (fun h => by cases h), ⟨rfl, hh3⟩, fun fs hl => c4.trans (X3.ireturnOut hexec hret (narrow_c _) (Or.inr (Or.inr (Or.inr (Or.inl rfl)))) (hb hbytes d14) hl)⟩
end LChA
end StrChars
namespace StrChars.Road
open Jvm Sem ClassFile Op Lib Jvm.Stand Jvm.Free Jvm.Free.XT
open Jvm.Lib.Cold (StaticIs)
theorem consq {a : Array Value} {s : State} {c : Jvm.Cond} {L : List Jvm.Cond} (h0 : c.before a s = true) (h : ∀ w ∈ L, w.before a s = true) : ∀ w ∈ c :: L, w.before a s = true := fun w hw => (List.mem_cons.mp hw).elim (fun e => e ▸ h0) (h w)
/-- the words of String.length(), either coding -/
abbrev wordsLen : List Jvm.Cond := [.code Len.yN Len.yB 1 (some .int), .initialized ST, .fieldLink ST 9 ST "value" "[B", .fieldLink ST 38 ST "COMPACT_STRINGS" "Z", .fieldLink ST 15 ST "coder" "B", .code Cdr.yN Cdr.yB 1 (some .byte), .methodLink ST 335 Cdr.yN, .declares Cdr.yN, .selects ST Cdr.yN Cdr.yN, .instanceMethod Cdr.yN]
theorem tabLen_of {a : Array Value} {s : State} (h : ∀ w ∈ wordsLen, w.before a s = true) : Len.tab.before a s = true := by
  have hc : Cdr.tab.before a s = true := unparts (wk h (.code Cdr.yN Cdr.yB 1 (some .byte))) (wks h (.initialized Cdr.yN.cls :: Cdr.site))
  have q := consq hc h
  exact unparts (wk q (.code Len.yN Len.yB 1 (some .int))) (wks q (.initialized Len.yN.cls :: Len.site))
theorem movedLen {Z s : State} {a0 args : Array Value} (hZ : Z.Warmed39 s.vm) (hw : ∀ d ∈ wordsLen, d.before a0 Z = true) : ∀ d ∈ wordsLen, d.before args s = true := fun d hd => by
  have q := hw d hd
  have t : ∀ d ∈ wordsLen, d = .arrayClass .byte ∨ (d.onTables && d.keepsFace) = true := by decide +kernel
  rcases t d hd with rfl | t
  · exact RoadKit.mvA hZ q
  · exact RoadKit.mv hZ q t
/-- the bytes of the chars cs, low before high -/
def wideBytes : List Int32 → List Value
  | [] => []
  | c :: cs => .int (lo8 c) :: .int (hi8 c) :: wideBytes cs
theorem wide_lo (d : Value) : ∀ (cs : List Int32) (j : Nat), j < cs.length → (wideBytes cs).getD (2 * j) d = .int (lo8 (cs.getD j 0))
  | [], j, h => absurd h (Nat.not_lt_zero j)
  | c :: cs, 0, _ => rfl
  | c :: cs, j + 1, h => by
    have q := wide_lo d cs j (by simpa using h)
    rw [show 2 * (j + 1) = 2 * j + 1 + 1 from by omega]
    simpa [wideBytes] using q
theorem wide_hi (d : Value) : ∀ (cs : List Int32) (j : Nat), j < cs.length → (wideBytes cs).getD (2 * j + 1) d = .int (hi8 (cs.getD j 0))
  | [], j, h => absurd h (Nat.not_lt_zero j)
  | c :: cs, 0, _ => rfl
  | c :: cs, j + 1, h => by
    have q := wide_hi d cs j (by simpa using h)
    rw [show 2 * (j + 1) + 1 = 2 * j + 1 + 1 + 1 from by omega]
    simpa [wideBytes] using q
theorem low_at (d : Value) (cs : List Int32) (j : Nat) (h : j < cs.length) : (cs.map fun c => Value.int (lo8 c)).getD j d = .int (lo8 (cs.getD j 0)) := by
  simp [List.getD_eq_getElem?_getD, h]
/-- an array of N2 bytes vs codes the chars cs by the coder cd -/
def CodA (cs : List Int32) (cd N2 : Int32) (vs : List Value) : Prop := (cd = 0 ∧ N2 = Int32.ofNat cs.length ∧ vs = (cs.map fun c => Value.int (lo8 c)) ∧ ∀ c ∈ cs, ¬ 255 < c) ∨ (cd = 1 ∧ N2 = Int32.ofNat (2 * cs.length) ∧ vs = wideBytes cs ∧ ∃ c ∈ cs, 255 < c)
theorem CodA.cod {cs : List Int32} {cd N2 : Int32} {vs : List Value} {V : Cell} (h : CodA cs cd N2 vs) (hn : 2 * cs.length < 2 ^ 31) (hs : V.slots.size = N2.toNatClampNeg) (hv : RoadKit.Has V vs (.int 0)) : Cod cd cs.length (fun j => cs.getD j 0) V := by
  rcases h with ⟨rfl, rfl, rfl, h⟩ | ⟨rfl, rfl, rfl, c, hc, hw⟩
  · rw [n32 (by omega)] at hs
    exact Or.inl ⟨rfl, hs, fun j hj => ⟨by rw [hv j (by omega), low_at _ _ _ hj], by
      have e : cs.getD j 0 = cs[j] := by simp [List.getD_eq_getElem?_getD, hj]
      show ¬ 255 < cs.getD j 0
      rw [e]; exact h _ (List.getElem_mem _)⟩⟩
  · rw [n32 (by omega)] at hs
    obtain ⟨j, hj, rfl⟩ := List.getElem_of_mem hc
    exact Or.inr ⟨rfl, hs, fun j hj => ⟨by rw [hv _ (by omega), wide_lo _ _ _ hj], by rw [hv _ (by omega), wide_hi _ _ _ hj]⟩, j, hj, by
      have e : cs.getD j 0 = cs[j] := by simp [List.getD_eq_getElem?_getD, hj]
      show 255 < cs.getD j 0
      rw [e]; exact hw⟩
/-- an object of exactly java/lang/String, its two fields found: as the laws ask it -/
theorem strObj {Z U : State} {a0 : Array Value} {kI : Nat} (wi : (Jvm.Cond.instantiable ST kI).before a0 Z = true) (al : Z.vm.Alike U.vm) {x : Addr} {v0 c0 : Value} (E : RoadKit.Exa Z U.heap x ST) (V : RoadKit.Fld Z U.heap x ST "value" "[B" v0) (C : RoadKit.Fld Z U.heap x ST "coder" "B" c0) :
    ∃ (D : Cell) (fV fC : Field), Blank ST x D U ∧ Found ST "value" "[B" fV U ∧ Found ST "coder" "B" fC U ∧ D.slots[fV.slot]? = some v0 ∧ D.slots[fC.slot]? = some c0 ∧ RoadKit.slotOf Z ST "value" "[B" = fV.slot ∧ RoadKit.slotOf Z ST "coder" "B" = fC.slot := by
  obtain ⟨D, cfV, kV, iV, fV, hD, gV, stV, knV, obV, asV, slV⟩ := V
  obtain ⟨D', cfC, kC, iC, fC, hD', gC, stC, -, -, asC, slC⟩ := C
  cases hD.symm.trans hD'
  obtain ⟨D2, kD, e1, e2, e3, e4, e5⟩ := E
  cases hD.symm.trans e1
  obtain ⟨c2, k2, i1, i2, i3, -⟩ := Cond.instantiable_spec wi
  cases e2.symm.trans i1
  cases e3.symm.trans i2
  obtain ⟨kU, u1, u2⟩ := al.2.2 _ _ e3
  exact ⟨D, fV, fC, ⟨hD, ⟨knV, fun q hq => by rw [hq] at obV; cases obV⟩, by rw [al.findClass]; exact e2, kU, u1, by rw [u2]; exact i3, by rw [u2]; exact e5 i3⟩, ⟨SBG.found_only al ⟨cfV, kV, iV, gV⟩, stV⟩, ⟨SBG.found_only al ⟨cfC, kC, iC, gC⟩, stC⟩, slV, slC, by simp [RoadKit.slotOf, gV], by simp [RoadKit.slotOf, gC]⟩
theorem sta_is {Z U : State} (al : Z.vm.Alike U.vm) {C n d : String} {v : Value} (S : RoadKit.Sta Z U.heap C n d v) : StaticIs U C n d v := by
  obtain ⟨cfS, iS, kS, fS, st, cS, t1, t2, t3, t4, t5, t6, t7⟩ := S
  exact StaticIs.there (s := { Z with heap := U.heap }) ⟨cfS, iS, kS, fS, st, cS, t1, t2, t3, t4, t5, (fun q => by rw [q] at t6; cases t6), t7⟩ al rfl
/-- **length() OF SUCH A STRING** -/
theorem lenW {p : Program} {l : Launch} {e : Env} {R : Room} {s : State} {args : Array Value} {below : List Frame} {len W : Nat} {Z : State} {a0 : Array Value} {h : Heap} (hZ : Z.Warmed39 s.vm) (hw : ∀ d ∈ wordsLen, d.before a0 Z = true) {kI : Nat} (wi : (Jvm.Cond.instantiable ST kI).before a0 Z = true)
    {x t : Addr} {kb : ClassId} {cs : List Int32} {cd N2 z : Int32} {vs : List Value} (E : RoadKit.Exa Z h x ST) (V : RoadKit.Fld Z h x ST "value" "[B" (.ref t)) (C : RoadKit.Fld Z h x ST "coder" "B" (.int cd)) (K : RoadKit.Arv Z h t kb .byte N2 vs (.int 0)) (hc : CodA cs cd N2 vs) (hb : ∀ c ∈ cs, ¬ c < 0 ∧ ¬ (65535 : Int32) < c)
    (S : RoadKit.Sta Z h ST "COMPACT_STRINGS" "Z" (.int z)) (hz : ¬ z = 0) (l2 : cs.length ≤ 4000) (hfr : 2 ≤ R.frames) (hlo : W + 25 ≤ R.locals) :
    Back l R p e below s args (⟨"java/lang/String", "length", "()I"⟩ : MethodName) len W (fun P a => a = #[.ref x] ∧ P.U.heap = h ∧ P.cells + 0 ≤ R.cells ∧ P.slots + 0 ≤ R.slots)
      (fun P _ v B => ∃ L, (v = some (.int (Int32.ofNat cs.length)) ∧ L = [] ∧ B.U.heap = h) ∧ B.locs = P.locs ++ L ∧ B.cells = P.cells + 0 ∧ B.slots = P.slots + 0) := by
  obtain ⟨A, K1, K2, K3, K4, K5, K6⟩ := K
  have hcod := hc.cod (by omega) K3 K5
  intro m meth c P g ig mk a X hg hsize hdg hW hn hp'
  obtain ⟨rfl, rfl, r1, r2⟩ := hp'
  have al : Z.vm.Alike P.U.vm := hZ.alike.trans X.warmed.alike
  obtain ⟨D, fV, fC, hB, F1, F2, g1, g2, -, -⟩ := strObj wi al E V C
  have hx : Txt x t A cd cs.length (fun j => cs.getD j 0) P.U := ⟨⟨_, hB.2.2.1, D, hB.1, rfl, by cases q : D.vm <;> first | rfl | exact absurd q (hB.2.1.2 _)⟩, Has.of hB F1 g1, Has.of hB F2 g2, ⟨K1.1, State.isArrayOf_alike al K1.2.1, K1.2.2, by rcases hcod with ⟨-, q, -⟩ | ⟨-, q, -⟩ <;> omega⟩, hcod, fun j hj => by
    have e : cs.getD j 0 = cs[j] := by simp [List.getD_eq_getElem?_getD, hj]
    show ¬ cs.getD j 0 < 0 ∧ ¬ 65535 < cs.getD j 0
    rw [e]; exact hb _ (List.getElem_mem _)⟩
  obtain ⟨v, B, X', ⟨⟨hv, hh⟩, hl, hk, hs⟩, st⟩ := Len.pays x t A cd cs.length (fun j => cs.getD j 0) z (tabLen_of (movedLen hZ hw)) hfr hlo m meth c P g ig mk _ X hg hsize hdg hW hn ⟨r1, r2, rfl, hx, sta_is al S, hz⟩
  exact ⟨v, B, X', ⟨[], ⟨hv, rfl, hh⟩, hl, hk, hs⟩, st⟩
end StrChars.Road
namespace StrChars.Road
open Jvm Sem ClassFile Op Lib Jvm.Stand Jvm.Free Jvm.Free.XT
open Jvm.Lib.Cold (StaticIs)
/-- the road's facts of a String, as the laws ask it -/
theorem txt_of {Z U : State} {a0 : Array Value} {kI : Nat} (wi : (Jvm.Cond.instantiable ST kI).before a0 Z = true) (al : Z.vm.Alike U.vm) {x t : Addr} {kb : ClassId} {cs : List Int32} {cd N2 : Int32} {vs : List Value} (E : RoadKit.Exa Z U.heap x ST) (V : RoadKit.Fld Z U.heap x ST "value" "[B" (.ref t)) (C : RoadKit.Fld Z U.heap x ST "coder" "B" (.int cd)) (K : RoadKit.Arv Z U.heap t kb .byte N2 vs (.int 0)) (hc : CodA cs cd N2 vs) (hb : ∀ c ∈ cs, ¬ c < 0 ∧ ¬ (65535 : Int32) < c) (l2 : cs.length ≤ 4000) :
    ∃ A, Txt x t A cd cs.length (fun j => cs.getD j 0) U := by
  obtain ⟨A, K1, K2, K3, K4, K5, K6⟩ := K
  have hcod := hc.cod (by omega) K3 K5
  obtain ⟨D, fV, fC, hB, F1, F2, g1, g2, -, -⟩ := strObj wi al E V C
  exact ⟨A, ⟨_, hB.2.2.1, D, hB.1, rfl, by cases q : D.vm <;> first | rfl | exact absurd q (hB.2.1.2 _)⟩, Has.of hB F1 g1, Has.of hB F2 g2, ⟨K1.1, State.isArrayOf_alike al K1.2.1, K1.2.2, by rcases hcod with ⟨-, q, -⟩ | ⟨-, q, -⟩ <;> omega⟩, hcod, fun j hj => by
    have e : cs.getD j 0 = cs[j] := by simp [List.getD_eq_getElem?_getD, hj]
    show ¬ cs.getD j 0 < 0 ∧ ¬ 65535 < cs.getD j 0
    rw [e]; exact hb _ (List.getElem_mem _)⟩
end StrChars.Road
namespace StrChars
open Jvm Sem ClassFile Op Lib Jvm.Stand Jvm.Free.XT Jvm.Free.ALB Jvm.Free.JM Jvm.Free
open Jvm.Lib.Cold (StaticIs)
namespace ChN
def yN : MethodName := ⟨"java/lang/String", "charAt", "(I)C"⟩
abbrev yB : ByteArray := jdk_42_method_56_code
theorem d0 : decode yB 0 = .ok (.aload_n 0, 1) := by decide +kernel
theorem d1 : decode yB 1 = .ok (.invokevirtual 492, 3) := by decide +kernel
theorem d4 : decode yB 4 = .ok (.ifCond (.eq) 12, 3) := by decide +kernel
theorem d7 : decode yB 7 = .ok (.aload_n 0, 1) := by decide +kernel
theorem d8 : decode yB 8 = .ok (.getfield 9, 3) := by decide +kernel
theorem d11 : decode yB 11 = .ok (.iload_n 1, 1) := by decide +kernel
theorem d12 : decode yB 12 = .ok (.invokestatic 495, 3) := by decide +kernel
theorem d15 : decode yB 15 = .ok (.ireturn, 1) := by decide +kernel
def site : List Cond := [.fieldLink "java/lang/String" 9 "java/lang/String" "value" "[B", IsL.tab, LChA.tab] ++ virtW "java/lang/String" 492 "java/lang/String" IsL.yN IsL.yN ++ staticW "java/lang/String" 495 LChA.yN
def tab : Cond := tabOf yN yB 2 (some .char) site
def P (x t : Addr) (V : Cell) (n : Nat) (f : Nat → Int32) (z : Int32) (fm : Value) (i : Nat) (args : Array Value) (s : State) : Prop := args = #[.ref x, .int (Int32.ofNat i)] ∧ Txt x t V 0 n f s ∧ i < n ∧ StaticIs s "java/lang/String" "COMPACT_STRINGS" "Z" (.int z) ∧ ¬ z = 0 ∧ StaticIs s "jdk/internal/util/Preconditions" "SIOOBE_FORMATTER" "Ljava/util/function/BiFunction;" fm ∧ fm.isRef = true
def E (f : Nat → Int32) (i : Nat) (r : Option Value) (s u : State) : Prop := XT.PureE (some (.int (f i))) r s u
/-- charAt(i) of a Latin-1 String of n chars, i < n: f i -/
theorem law (l : Launch) (x t : Addr) (V : Cell) (n : Nat) (f : Nat → Int32) (z : Int32) (fm : Value) (i : Nat) : Law l yN 2 1 3 40 yB 2 (some .char) site (P x t V n f z fm i) (E f i) [] 0 0 := by
  refine Law.of_walk (plainFor_of_name (by decide +kernel)) (by decide +kernel) (by decide +kernel) (by decide) (fun _ _ h => by rw [h.1]; rfl) (fun _ U U' hal hh h => ⟨h.1, h.2.1.mv hal hh, h.2.2.1, h.2.2.2.1.there hal hh, h.2.2.2.2.1, h.2.2.2.2.2.1.there hal hh, h.2.2.2.2.2.2⟩) (fun r U U' V V' h1 hal h2 h => XT.PureE.mv r U U' V V' h1 hal h2 h) ?_
  intro p e s m args below meth c s₁ X0 hexec hbytes hml hret hlk hnm hown hh0 W hP
  obtain ⟨rfl, hx, hi, s1, hz, s3, rf⟩ := hP
  have v31 := hx.2.2.2.1.2.2.2
  have hr := hx.2.2.2.2.2 i hi
  have hx0 := hx.mv X0.warmed.alike hh0
  have c1 : Steps p.tables e below (s₁.setTop (entryFrame m #[.ref x, .int (Int32.ofNat i)] 2)) (s₁.setTop (mkF m 1 #[.val (.ref x), .val (.int (Int32.ofNat i))] [.ref x])) := Steps.trans (entry rfl) (by
    show Steps p.tables e below (s₁.setTop (mkF m 0 #[.val (.ref x), .val (.int (Int32.ofNat i))] [])) _
    refine XS.aloadN X0.here hexec rfl (hb hbytes d0) rfl rfl ?_
    exact Steps.refl _)
  obtain ⟨v2, T2, X2, E2, g2⟩ := X0.callV hexec (IsL.law l x 0 z) hown (wks W (virtW "java/lang/String" 492 "java/lang/String" IsL.yN IsL.yN)) rfl (by decide) (wk W IsL.tab) (W := 0) (Nat.le_of_ble_eq_true rfl) (Nat.le_of_ble_eq_true rfl) (Nat.le_refl _) (Nat.le_refl _) (hx0.1.fc X0.warmed.alike) hx0.1.is (g := (mkF m 1 #[.val (.ref x), .val (.int (Int32.ofNat i))] [.ref x])) rfl (by rw [hml]; rfl) c1 (argsL := []) (rest := []) rfl rfl (by show 2 * 0 + 0 ≤ _; decide) (hb hbytes d1) (⟨rfl, hx0.2.2.1, hx.2.2.2.2.1.cd, s1.there X0.warmed.alike hh0, hz⟩)
  obtain ⟨rfl, q2⟩ := E2
  have hh2 := q2.trans hh0
  have hx2 := hx.mv X2.warmed.alike hh2
  obtain ⟨-, k1, k2⟩ | ⟨k0, -⟩ := hx.2.2.2.2.1
  · have c3 : Steps p.tables e below (s₁.setTop (entryFrame m #[.ref x, .int (Int32.ofNat i)] 2)) (T2.setTop (mkF m 8 #[.val (.ref x), .val (.int (Int32.ofNat i))] [.ref x])) := Steps.trans g2 (by
      refine XS.ifNo X2.here hexec rfl (hb hbytes d4) rfl (i0_eq_f (by decide)) ?_
      refine XS.aloadN X2.here hexec rfl (hb hbytes d7) rfl rfl ?_
      exact Steps.refl _)
    obtain ⟨T4, X4, q4, st4⟩ := X2.hget hexec hown (wk W (.fieldLink "java/lang/String" 9 "java/lang/String" "value" "[B")) hx2.2.1 (g := (mkF m 8 #[.val (.ref x), .val (.int (Int32.ofNat i))] [.ref x])) rfl (rest := []) rfl (hb hbytes d8)
    have hh4 := q4.trans hh2
    have c5 : Steps p.tables e below (s₁.setTop (entryFrame m #[.ref x, .int (Int32.ofNat i)] 2)) (T4.setTop (mkF m 12 #[.val (.ref x), .val (.int (Int32.ofNat i))] [.int (Int32.ofNat i), .ref t])) := (c3.trans (st4 _ (Steps.refl _))).trans (by
      refine XS.iloadN X4.here hexec rfl (hb hbytes d11) rfl ?_
      exact Steps.refl _)
    obtain ⟨v6, T6, X6, E6, g6⟩ := X4.callS hexec (LChA.law l t V i (lo8 (f i)) fm) hown (wks W (staticW "java/lang/String" 495 LChA.yN)) (wk W LChA.tab) (W := 0) (Nat.le_of_ble_eq_true rfl) (Nat.le_of_ble_eq_true rfl) (Nat.le_refl _) (Nat.le_refl _) (g := (mkF m 12 #[.val (.ref x), .val (.int (Int32.ofNat i))] [.int (Int32.ofNat i), .ref t])) rfl (by rw [hml]; rfl) c5 (argsL := [.ref t, .int (Int32.ofNat i)]) (rest := []) rfl rfl (by show 2 * 0 + 0 ≤ _; decide) (hb hbytes d12) (⟨rfl, hx.2.2.2.1.mv X4.warmed.alike hh4, (k2 i hi).1, s3.there X4.warmed.alike hh4, rf⟩)
    obtain ⟨rfl, q6⟩ := E6
    rw [chr8_lo8 hr.1 (k2 i hi).2] at g6
    exact ⟨T6, some (.int (f i)), _, _, _, X6, rfl, rfl, rfl, (fun h => by cases h), ⟨rfl, q6.trans hh4⟩, fun fs hl => Steps.trans g6 (X6.ireturnOut hexec hret (narrow_ch hr.1 hr.2) (Or.inr (Or.inr (Or.inr (Or.inl rfl)))) (hb hbytes d15) hl)⟩
  · exact absurd k0 (by decide)
theorem pays {l : Launch} {R : Room} {p : Program} {e : Env} {below : List Frame} {s : State} {sargs : Array Value} {len W : Nat} (x t : Addr) (V : Cell) (n : Nat) (f : Nat → Int32) (z : Int32) (fm : Value) (i : Nat) (htab : tab.before sargs s = true) (hfr : 4 ≤ R.frames) (hlo : W + 53 ≤ R.locals) :
    Back l R p e below s sargs yN len W (fun A₁ a₁ => A₁.cells + 0 ≤ R.cells ∧ A₁.slots + 0 ≤ R.slots ∧ P x t V n f z fm i a₁ A₁.U) (fun A₁ _ v₁ B₁ => E f i v₁ A₁.U B₁.U ∧ B₁.locs = A₁.locs ++ [] ∧ B₁.cells = A₁.cells + 0 ∧ B₁.slots = A₁.slots + 0) :=
  (law l x t V n f z fm i).pays htab hfr (by omega)
end ChN
end StrChars
namespace StrChars.Road
open Jvm Sem ClassFile Op Lib Jvm.Stand Jvm.Free Jvm.Free.XT
open Jvm.Lib.Cold (StaticIs)
/-- the words of String.charAt(int), the Latin-1 road alone -/
abbrev wordsChN : List Jvm.Cond := [.code ChN.yN ChN.yB 2 (some .char), .initialized ST, .fieldLink ST 9 ST "value" "[B", .fieldLink ST 38 ST "COMPACT_STRINGS" "Z", .fieldLink ST 15 ST "coder" "B", .code IsL.yN IsL.yB 1 (some .boolean), .methodLink ST 492 IsL.yN, .declares IsL.yN, .selects ST IsL.yN IsL.yN, .instanceMethod IsL.yN,
  .methodLink ST 495 LChA.yN, .static LChA.yN, .code LChA.yN LChA.yB 2 (some .char), .initialized "java/lang/StringLatin1", .methodLink "java/lang/StringLatin1" 9 JO.Str_checkIndex.yN, .static JO.Str_checkIndex.yN, .code JO.Str_checkIndex.yN JO.Str_checkIndex.yB 2 none,
  .fieldLink ST 1053 "jdk/internal/util/Preconditions" "SIOOBE_FORMATTER" "Ljava/util/function/BiFunction;", .methodLink ST 1059 JC.PreCheck.yN, .static JC.PreCheck.yN, .code JC.PreCheck.yN JC.PreCheck.yB 3 (some .int), .initialized "jdk/internal/util/Preconditions"]
theorem tabChN_of {a : Array Value} {s : State} (h : ∀ w ∈ wordsChN, w.before a s = true) : ChN.tab.before a s = true := by
  have hp : JC.PreCheck.tab.before a s = true := unparts (wk h (.code JC.PreCheck.yN JC.PreCheck.yB 3 (some .int))) (wks h (.initialized JC.PreCheck.yN.cls :: JC.PreCheck.site))
  have qk := consq hp h
  have hk : JO.Str_checkIndex.tab.before a s = true := unparts (wk qk (.code JO.Str_checkIndex.yN JO.Str_checkIndex.yB 2 none)) (wks qk (.initialized JO.Str_checkIndex.yN.cls :: JO.Str_checkIndex.site))
  have ql := consq hk h
  have hl : LChA.tab.before a s = true := unparts (wk ql (.code LChA.yN LChA.yB 2 (some .char))) (wks ql (.initialized LChA.yN.cls :: LChA.site))
  have hi : IsL.tab.before a s = true := unparts (wk h (.code IsL.yN IsL.yB 1 (some .boolean))) (wks h (.initialized IsL.yN.cls :: IsL.site))
  have q := consq hi (consq hl h)
  exact unparts (wk q (.code ChN.yN ChN.yB 2 (some .char))) (wks q (.initialized ChN.yN.cls :: ChN.site))
theorem movedChN {Z s : State} {a0 args : Array Value} (hZ : Z.Warmed39 s.vm) (hw : ∀ d ∈ wordsChN, d.before a0 Z = true) : ∀ d ∈ wordsChN, d.before args s = true := fun d hd => by
  have t : ∀ d ∈ wordsChN, (d.onTables && d.keepsFace) = true := by decide +kernel
  exact RoadKit.mv hZ (hw d hd) (t d hd)
/-- **charAt(i) OF A LATIN-1 STRING**, i < n: the char -/
theorem chN {p : Program} {l : Launch} {e : Env} {R : Room} {s : State} {args : Array Value} {below : List Frame} {len W : Nat} {Z : State} {a0 : Array Value} {h : Heap} (hZ : Z.Warmed39 s.vm) (hw : ∀ d ∈ wordsChN, d.before a0 Z = true) {kI : Nat} (wi : (Jvm.Cond.instantiable ST kI).before a0 Z = true)
    {x t : Addr} {kb : ClassId} {cs : List Int32} {N2 z : Int32} {vs : List Value} {fm : Value} {i : Nat} {j : Int32} (E : RoadKit.Exa Z h x ST) (V : RoadKit.Fld Z h x ST "value" "[B" (.ref t)) (C : RoadKit.Fld Z h x ST "coder" "B" (.int 0)) (K : RoadKit.Arv Z h t kb .byte N2 vs (.int 0)) (hc : CodA cs 0 N2 vs) (hb : ∀ c ∈ cs, ¬ c < 0 ∧ ¬ (65535 : Int32) < c)
    (S : RoadKit.Sta Z h ST "COMPACT_STRINGS" "Z" (.int z)) (hz : ¬ z = 0) (F : RoadKit.Sta Z h "jdk/internal/util/Preconditions" "SIOOBE_FORMATTER" "Ljava/util/function/BiFunction;" fm) (rf : fm.isRef = true) (l2 : cs.length ≤ 4000) (hi : i < cs.length) (hj : j = Int32.ofNat i) (hfr : 4 ≤ R.frames) (hlo : W + 53 ≤ R.locals) :
    Back l R p e below s args (⟨"java/lang/String", "charAt", "(I)C"⟩ : MethodName) len W (fun P a => a = #[.ref x, .int j] ∧ P.U.heap = h ∧ P.cells + 0 ≤ R.cells ∧ P.slots + 0 ≤ R.slots)
      (fun P _ v B => ∃ L, (v = some (.int (cs.getD i 0)) ∧ L = [] ∧ B.U.heap = h) ∧ B.locs = P.locs ++ L ∧ B.cells = P.cells + 0 ∧ B.slots = P.slots + 0) := by
  subst hj
  intro m meth c P g ig mk a X hg hsize hdg hW hn hp'
  obtain ⟨rfl, rfl, r1, r2⟩ := hp'
  have al : Z.vm.Alike P.U.vm := hZ.alike.trans X.warmed.alike
  obtain ⟨A, hx⟩ := txt_of wi al E V C K hc hb l2
  obtain ⟨v, B, X', ⟨⟨hv, hh⟩, hl, hk, hs⟩, st⟩ := ChN.pays x t A cs.length (fun j => cs.getD j 0) z fm i (tabChN_of (movedChN hZ hw)) hfr hlo m meth c P g ig mk _ X hg hsize hdg hW hn ⟨r1, r2, rfl, hx, hi, sta_is al S, hz, sta_is al F, rf⟩
  exact ⟨v, B, X', ⟨[], ⟨hv, rfl, hh⟩, hl, hk, hs⟩, st⟩
/-- what backV says of its String, as the contracts of this text ask it: cs's low bytes, coder 0 -/
theorem codOf {cs : List Int32} {n : Nat} (hn : cs.length = n) (hb : ∀ c ∈ cs, ¬ 255 < c) : CodA cs 0 (Int32.ofNat n) ((cs.map lo8).map Value.int) := Or.inl ⟨rfl, by rw [hn], by simp [List.map_map, Function.comp_def], hb⟩
end StrChars.Road
end Jvm.Pilot.@@N@@
namespace Jvm.Pilot.@@N@@
open Jvm Jvm.ClassFile Sem Op Lib Jvm.Free Jvm.Stand Jvm.LawKit Jvm.RoadKit Bundle Jvm.Pilot.@@N@@.Jvm.D
def irm (a b : Int32) : Int32 := a - a / b * b
theorem wi {Z : State} {a0 : Array Value} (hw : ∀ d ∈ tables_1, d.before a0 Z = true) {d : Jvm.Cond} (i : Nat) (h : tables_1[i]? = some d) : d.before a0 Z = true := hw d (List.mem_of_getElem? h)
theorem own_uniq {Z : State} {h : Heap} {a : Addr} {C n d : String} {v w : Value} (F : Fld Z h a C n d v) (G : Fld Z h a C n d w) : v = w := by
  obtain ⟨c1, cf1, k1, i1, f1, a1, a2, -, -, -, -, a7⟩ := F
  obtain ⟨c2, cf2, k2, i2, f2, b1, b2, -, -, -, -, b7⟩ := G
  cases a1.symm.trans b1
  cases a2.symm.trans b2
  exact Option.some.inj (a7.symm.trans b7)
theorem own_ne {Z : State} {h : Heap} {a b : Addr} {C n d : String} {v w : Value} (F : Fld Z h a C n d v) (G : Fld Z h b C n d w) (hn : v ≠ w) : a ≠ b := fun e => by
  subst e
  exact hn (own_uniq F G)
theorem own_fldI {s : State} {args : Array Value} {t : Term} {a : Addr} {C n d : String} {k : Int32} (ev : t.eval args s none [] s = some (.ref a)) (h : (Cond.eq (Term.field t C n d) (Term.int k)).value args s none s [] = some true) : Fld s s.heap a C n d (.int k) := Fld.start ((fld_at ev).symm.trans (eqv_i rfl h))
theorem own_and255 (x : Int32) : ¬ nar .char ((x &&& (255 : Int32)).toUInt32.toUInt16.toUInt32.toInt32) < 0 ∧ ¬ (255 : Int32) < nar .char ((x &&& (255 : Int32)).toUInt32.toUInt16.toUInt32.toInt32) := by
  have t : ∀ k : Fin 256, ¬ nar .char ((Int32.ofNat k.val).toUInt32.toUInt16.toUInt32.toInt32) < 0 ∧ ¬ (255 : Int32) < nar .char ((Int32.ofNat k.val).toUInt32.toUInt16.toUInt32.toInt32) := by decide +kernel
  have h : (x &&& 255).toBitVec.toNat < 256 := by
    simp only [Int32.toBitVec_and, BitVec.toNat_and]
    exact Nat.lt_succ_of_le Nat.and_le_right
  have e : (x &&& 255) = Int32.ofNat (x &&& 255).toBitVec.toNat := by
    apply Int32.toBitVec_inj.mp
    show _ = BitVec.ofNat 32 _
    rw [BitVec.ofNat_toNat]; simp
  rw [e]
  exact t ⟨_, h⟩
theorem own_nar {x : Int32} (h : ¬ x < 0 ∧ ¬ (255 : Int32) < x) : nar .char x = x := by
  have t : ∀ k : Fin 256, nar .char (Int32.ofNat k.val) = Int32.ofNat k.val := by decide +kernel
  obtain ⟨h1, h2⟩ := h
  rw [Int32.lt_iff_toInt_lt] at h1 h2
  have e0 : (0 : Int32).toInt = 0 := rfl
  have e1 : (255 : Int32).toInt = 255 := rfl
  have e : x = Int32.ofNat x.toInt.toNat := by
    apply Int32.toInt_inj.mp
    rw [Int32.toInt_ofNat_of_lt (by omega)]
    omega
  rw [e]
  exact t ⟨x.toInt.toNat, by omega⟩
theorem own_up (cs : List Int32) (h : ∀ c ∈ cs, ¬ c < 0 ∧ ¬ (255 : Int32) < c) : ∀ c ∈ cs, ¬ c < 0 ∧ ¬ (65535 : Int32) < c := fun c hc => ⟨(h c hc).1, fun q => (h c hc).2 (by rw [Int32.lt_iff_toInt_lt] at q ⊢; have e1 : (65535 : Int32).toInt = 65535 := rfl; have e2 : (255 : Int32).toInt = 255 := rfl; omega)⟩
theorem own_memS {a : Int32} {l : List Int32} (h : ¬ a < 0 ∧ ¬ (255 : Int32) < a) (r : ∀ c ∈ l, ¬ c < 0 ∧ ¬ (255 : Int32) < c) : ∀ c ∈ a :: l, ¬ c < 0 ∧ ¬ (255 : Int32) < c := fun c hc => by
  rcases List.mem_cons.mp hc with q | q
  · rw [q]; exact h
  · exact r c q
theorem own_mem0 : ∀ c ∈ ([] : List Int32), ¬ c < 0 ∧ ¬ (255 : Int32) < c := fun _ q => nomatch q
def Str (Z : State) (h : Heap) (x : Addr) (cs : List Int32) : Prop := ∃ (t : Addr) (kb : ClassId) (N : Int32) (vs : List Value), Exa Z h x "java/lang/String" ∧ Fld Z h x "java/lang/String" "value" "[B" (.ref t) ∧ Fld Z h x "java/lang/String" "coder" "B" (.int 0) ∧ Arv Z h t kb .byte N vs (.int 0) ∧ StrChars.Road.CodA cs 0 N vs ∧ (∀ c ∈ cs, ¬ c < 0 ∧ ¬ (255 : Int32) < c) ∧ cs.length ≤ 4000
theorem Str.ext {Z : State} {h h' : Heap} {x : Addr} {cs : List Int32} (E : Ext h h') (S : Str Z h x cs) : Str Z h' x cs := by
  obtain ⟨t, kb, N, vs, q1, q2, q3, q4, q5, q6, q7⟩ := S
  exact ⟨t, kb, N, vs, q1.ext E, q2.ext E, q3.ext E, q4.ext E, q5, q6, q7⟩
theorem own_ext {h h' : Heap} (K : Keep h h' []) : Ext h h' := ⟨K.1, fun a c q => K.2.1 a c q nin0⟩
theorem own_open {Z : State} {h : Heap} {x : Addr} {cs : List Int32} (S : Str Z h x cs) : ∃ (t : Addr) (kb : ClassId), Exa Z h x "java/lang/String" ∧ Fld Z h x "java/lang/String" "value" "[B" (.ref t) ∧ Fld Z h x "java/lang/String" "coder" "B" (.int 0) ∧ Arv Z h t kb .byte (Int32.ofNat cs.length) (cs.map fun c => Value.int (c.toInt8.toInt32)) (.int 0) ∧ (∀ c ∈ cs, ¬ c < 0 ∧ ¬ (255 : Int32) < c) ∧ cs.length ≤ 4000 := by
  obtain ⟨t, kb, N, vs, q1, q2, q3, q4, q5, q6, q7⟩ := S
  rcases q5 with ⟨-, rfl, rfl, -⟩ | ⟨q, -⟩
  · exact ⟨t, kb, q1, q2, q3, q4, q6, q7⟩
  · exact absurd q (by decide)
def dig (x i : Int32) : Int32 := nar .char (((48 : Int32) + (irm (((x.toUInt32 >>> ((((4 : Int32) * i)) &&& 31).toUInt32).toInt32) &&& (15 : Int32)) (10 : Int32))).toUInt32.toUInt16.toUInt32.toInt32)
theorem own_dig (x i : Int32) : (¬ dig x i < 0 ∧ ¬ (255 : Int32) < dig x i) ∧ ¬ (dig x i).toInt8.toInt32 = 46 := by
  unfold dig
  generalize ((x.toUInt32 >>> ((((4 : Int32) * i)) &&& 31).toUInt32).toInt32) = y
  have t : ∀ k : Fin 16, (¬ nar .char (((48 : Int32) + (irm (Int32.ofNat k.val) (10 : Int32))).toUInt32.toUInt16.toUInt32.toInt32) < 0 ∧ ¬ (255 : Int32) < nar .char (((48 : Int32) + (irm (Int32.ofNat k.val) (10 : Int32))).toUInt32.toUInt16.toUInt32.toInt32)) ∧ ¬ (nar .char (((48 : Int32) + (irm (Int32.ofNat k.val) (10 : Int32))).toUInt32.toUInt16.toUInt32.toInt32)).toInt8.toInt32 = 46 := by decide +kernel
  have h : (y &&& 15).toBitVec.toNat < 16 := by
    simp only [Int32.toBitVec_and, BitVec.toNat_and]
    exact Nat.lt_succ_of_le Nat.and_le_right
  have e : (y &&& 15) = Int32.ofNat (y &&& 15).toBitVec.toNat := by
    apply Int32.toBitVec_inj.mp
    show _ = BitVec.ofNat 32 _
    rw [BitVec.ofNat_toNat]; simp
  rw [e]
  exact t ⟨_, h⟩
def QP (r : Value) (h0 : Heap) (n0 : Nat) (v : Option Value) (h : Heap) (L : List Loc) : Prop := v = some r ∧ Fr n0 L ∧ h = h0
theorem d1_0 : decode method_2_code 0 = .ok (.bipush 48, 2) := by decide +kernel
theorem d1_2 : decode method_2_code 2 = .ok (.iload_n 0, 1) := by decide +kernel
theorem d1_3 : decode method_2_code 3 = .ok (.iconst 4, 1) := by decide +kernel
theorem d1_4 : decode method_2_code 4 = .ok (.iload_n 1, 1) := by decide +kernel
theorem d1_5 : decode method_2_code 5 = .ok (.imul, 1) := by decide +kernel
theorem d1_6 : decode method_2_code 6 = .ok (.iushr, 1) := by decide +kernel
theorem d1_7 : decode method_2_code 7 = .ok (.bipush 15, 2) := by decide +kernel
theorem d1_9 : decode method_2_code 9 = .ok (.iand, 1) := by decide +kernel
theorem d1_10 : decode method_2_code 10 = .ok (.bipush 10, 2) := by decide +kernel
theorem d1_12 : decode method_2_code 12 = .ok (.irem, 1) := by decide +kernel
theorem d1_13 : decode method_2_code 13 = .ok (.iadd, 1) := by decide +kernel
theorem d1_14 : decode method_2_code 14 = .ok (.i2c, 1) := by decide +kernel
theorem d1_15 : decode method_2_code 15 = .ok (.ireturn, 1) := by decide +kernel
abbrev y1 : MethodName := ⟨"io/roadcrew/resolve/VersionReaderMajorPinLaw", "digit", "(II)C"⟩
theorem ef_II_2 (m : MethodId) (x0 : Int32) (x1 : Int32) : entryFrame m #[(.int x0), (.int x1)] 2 = mkF m 0 #[.val (.int x0), .val (.int x1)] [] := by first | (simp [entryFrame, mkF, argsToLocals, Value.category]; done) | rfl
theorem pn_0 : plainName "io/roadcrew/resolve/VersionReaderMajorPinLaw" = true := by first | (simp [plainName, overriddenIn]; done) | decide +kernel
set_option maxRecDepth 65536 in
set_option maxHeartbeats 40000000 in
theorem rmD0 (l : Launch) (Z : State) (a0 : Array Value) (hw : ∀ d ∈ tables_1, d.before a0 Z = true) (ws : List Jvm.Cond) (p1 p2 : Int32) (h0 : Heap) (n0 : Nat) (O0 : Old Z n0 h0) :
    MetFree l y1 (head1 (Jvm.Cond.code y1 method_2_code 2 (some .char) :: ws) ({ frames := 0, cells := 0, slots := 0, locals := 0 } : Room)) (fun a_ U => a_ = #[(.int p1), (.int p2)] ∧ Z.Warmed39 U.vm ∧ U.heap = h0) (fun _ _ _ _ _ => True) (fun _ U o U' => ∃ v L, o = .returned v ∧ QP (.int (dig p1 p2)) h0 n0 v U'.heap L ∧ FrameEnd U o U' L 0 0) := by
  refine MetFree.of_bodySF (plainFor_of_name pn_0) hisR ?_
  intro p e s m args below meth c s₁ Bd hml0 hP hK
  obtain ⟨rfl, hZ, hh⟩ := hP
  have hx := Bd.exec
  have hby := Bd.bytes
  have hml : c.maxLocals = 2 := hml0
  have hown : s.vm.findClass "io/roadcrew/resolve/VersionReaderMajorPinLaw" = some m.cls := findClass_of_methodNamed Bd.named
  have hnm := (name_of_methodNamed Bd.named Bd.method).1
  have X0 : Stand p l e ({ frames := 0, cells := 0, slots := 0, locals := 0 } : Room) s m #[(.int p1), (.int p2)] below meth c s₁ [] 0 0 := Stand.of_body Bd
  have e0 : s₁.heap = h0 := by rw [← hh, Bd.state]; rfl
  have N0 := Fr.nil n0
  have pre0 : ∀ tg, Steps p.tables e below (s₁.setTop (mkF m 0 #[.val (.int p1), .val (.int p2)] [])) tg → Steps p.tables e below (s₁.setTop (entryFrame m #[(.int p1), (.int p2)] 2)) tg := fun tg kq => castTop (ef_II_2 m p1 p2) kq
  obtain ⟨fs, hr, hrun, hended, hW, hsame⟩ := X0.leave (v := some (.int (nar .char (((48 : Int32) + (irm (((p1.toUInt32 >>> (((4 : Int32) * p2) &&& 31).toUInt32).toInt32) &&& (15 : Int32)) (10 : Int32))).toUInt32.toUInt16.toUInt32.toInt32)))) (fun h => by rw [Bd.returns] at h; cases h)
  refine ⟨_, _, pre0 _ ?_, hrun, hended, _, _, rfl, ?_, ⟨_, rfl⟩, hW, hsame.mono (by decide) (by decide)⟩
  · show Steps p.tables e below (s₁.setTop (mkF m 0 #[.val (.int p1), .val (.int p2)] [])) _
    refine XS.bipush X0.here hx rfl (hb hby d1_0) ?_
    refine XS.iloadN X0.here hx rfl (hb hby d1_2) rfl ?_
    refine XS.iconst X0.here hx rfl (hb hby d1_3) ?_
    show Steps p.tables e below (s₁.setTop (mkF m 4 #[.val (.int p1), .val (.int p2)] [(.int 4), (.int p1), (.int 48)])) _
    refine XS.iloadN X0.here hx rfl (hb hby d1_4) rfl ?_
    refine XS.imul X0.here hx rfl (hb hby d1_5) rfl ?_
    refine XS.iushr X0.here hx rfl (hb hby d1_6) rfl ?_
    show Steps p.tables e below (s₁.setTop (mkF m 7 #[.val (.int p1), .val (.int p2)] [(.int ((p1.toUInt32 >>> (((4 : Int32) * p2) &&& 31).toUInt32).toInt32)), (.int 48)])) _
    refine XS.bipush X0.here hx rfl (hb hby d1_7) ?_
    refine XS.iand X0.here hx rfl (hb hby d1_9) rfl ?_
    refine XS.bipush X0.here hx rfl (hb hby d1_10) ?_
    show Steps p.tables e below (s₁.setTop (mkF m 12 #[.val (.int p1), .val (.int p2)] [(.int 10), (.int (((p1.toUInt32 >>> (((4 : Int32) * p2) &&& 31).toUInt32).toInt32) &&& (15 : Int32))), (.int 48)])) _
    refine XS.irem X0.here hx rfl (hb hby d1_12) rfl (by decide) ?_
    refine XS.iadd X0.here hx rfl (hb hby d1_13) rfl ?_
    refine XS.i2c X0.here hx rfl (hb hby d1_14) rfl ?_
    show Steps p.tables e below (s₁.setTop (mkF m 15 #[.val (.int p1), .val (.int p2)] [(.int (((48 : Int32) + (irm (((p1.toUInt32 >>> (((4 : Int32) * p2) &&& 31).toUInt32).toInt32) &&& (15 : Int32)) (10 : Int32))).toUInt32.toUInt16.toUInt32.toInt32))])) _
    exact retN X0 hx (t := .char) Bd.returns (by simp) (hb hby d1_15) hr
  · show QP (.int (dig p1 p2)) h0 n0 _ s₁.heap _
    rw [e0]
    exact ⟨rfl, N0, rfl⟩
theorem rmD (l : Launch) (Z : State) (a0 : Array Value) (hw : ∀ d ∈ tables_1, d.before a0 Z = true) (ws : List Jvm.Cond) (p1 p2 ch : Int32) (h0 : Heap) (n0 : Nat) (O0 : Old Z n0 h0) (hd : ch = dig p1 p2) :
    MetFree l y1 (head1 (Jvm.Cond.code y1 method_2_code 2 (some .char) :: ws) ({ frames := 0, cells := 0, slots := 0, locals := 0 } : Room)) (fun a_ U => a_ = #[(.int p1), (.int p2)] ∧ Z.Warmed39 U.vm ∧ U.heap = h0) (fun _ _ _ _ _ => True) (fun _ U o U' => ∃ v L, o = .returned v ∧ QP (.int ch) h0 n0 v U'.heap L ∧ FrameEnd U o U' L 0 0) := by
  subst hd
  exact rmD0 l Z a0 hw ws p1 p2 h0 n0 O0
def QN (h0 : Heap) (n0 : Nat) (v : Option Value) (h : Heap) (L : List Loc) : Prop := v = none ∧ Fr n0 L ∧ h = h0
theorem d15_0 : decode jdk_43_method_4_code 0 = .ok (.iload_n 0, 1) := by decide +kernel
theorem d15_1 : decode jdk_43_method_4_code 1 = .ok (.ifCond .lt 14, 3) := by decide +kernel
theorem d15_4 : decode jdk_43_method_4_code 4 = .ok (.iload_n 0, 1) := by decide +kernel
theorem d15_5 : decode jdk_43_method_4_code 5 = .ok (.sipush 255, 3) := by decide +kernel
theorem d15_8 : decode jdk_43_method_4_code 8 = .ok (.if_icmp .gt 7, 3) := by decide +kernel
theorem d15_11 : decode jdk_43_method_4_code 11 = .ok (.iconst 1, 1) := by decide +kernel
theorem d15_12 : decode jdk_43_method_4_code 12 = .ok (.goto 4, 3) := by decide +kernel
theorem d15_16 : decode jdk_43_method_4_code 16 = .ok (.ireturn, 1) := by decide +kernel
abbrev y15 : MethodName := ⟨"java/lang/StringLatin1", "canEncode", "(I)Z"⟩
theorem ef_I_1 (m : MethodId) (x0 : Int32) : entryFrame m #[(.int x0)] 1 = mkF m 0 #[.val (.int x0)] [] := by first | (simp [entryFrame, mkF, argsToLocals, Value.category]; done) | rfl
theorem pn_1 : plainName "java/lang/StringLatin1" = true := by first | (simp [plainName, overriddenIn]; done) | decide +kernel
set_option maxRecDepth 65536 in
set_option maxHeartbeats 40000000 in
theorem rmC (l : Launch) (Z : State) (a0 : Array Value) (hw : ∀ d ∈ tables_1, d.before a0 Z = true) (ws : List Jvm.Cond)  (h0 : Heap) (n0 : Nat) (O0 : Old Z n0 h0) :
    MetFree l y15 (head1 (Jvm.Cond.code y15 jdk_43_method_4_code 1 (some .boolean) :: ws) ({ frames := 0, cells := 0, slots := 0, locals := 0 } : Room)) (fun a_ U => a_ = #[(.int 46)] ∧ Z.Warmed39 U.vm ∧ U.heap = h0) (fun _ _ _ _ _ => True) (fun _ U o U' => ∃ v L, o = .returned v ∧ QP (.int (1 : Int32)) h0 n0 v U'.heap L ∧ FrameEnd U o U' L 0 0) := by
  refine MetFree.of_bodySF (plainFor_of_name pn_1) hisR ?_
  intro p e s m args below meth c s₁ Bd hml0 hP hK
  obtain ⟨rfl, hZ, hh⟩ := hP
  have hx := Bd.exec
  have hby := Bd.bytes
  have hml : c.maxLocals = 1 := hml0
  have hown : s.vm.findClass "java/lang/StringLatin1" = some m.cls := findClass_of_methodNamed Bd.named
  have hnm := (name_of_methodNamed Bd.named Bd.method).1
  have X0 : Stand p l e ({ frames := 0, cells := 0, slots := 0, locals := 0 } : Room) s m #[(.int 46)] below meth c s₁ [] 0 0 := Stand.of_body Bd
  have e0 : s₁.heap = h0 := by rw [← hh, Bd.state]; rfl
  have N0 := Fr.nil n0
  have pre0 : ∀ tg, Steps p.tables e below (s₁.setTop (mkF m 0 #[.val (.int 46)] [])) tg → Steps p.tables e below (s₁.setTop (entryFrame m #[(.int 46)] 1)) tg := fun tg kq => castTop (ef_I_1 m (46 : Int32)) kq
  obtain ⟨fs, hr, hrun, hended, hW, hsame⟩ := X0.leave (v := some (.int 1)) (fun h => by rw [Bd.returns] at h; cases h)
  refine ⟨_, _, pre0 _ ?_, hrun, hended, _, _, rfl, ?_, ⟨_, rfl⟩, hW, hsame.mono (by decide) (by decide)⟩
  · show Steps p.tables e below (s₁.setTop (mkF m 0 #[.val (.int 46)] [])) _
    refine XS.iloadN X0.here hx rfl (hb hby d15_0) rfl ?_
    refine XS.ifNo X0.here hx rfl (hb hby d15_1) rfl ((if0 _ _).trans (flt (by decide : ¬ ((46 : Int32) < (0 : Int32)))).1) ?_
    refine XS.iloadN X0.here hx rfl (hb hby d15_4) rfl ?_
    show Steps p.tables e below (s₁.setTop (mkF m 5 #[.val (.int 46)] [(.int 46)])) _
    refine XS.sipush X0.here hx rfl (hb hby d15_5) ?_
    refine XS.icmpNo X0.here hx rfl (hb hby d15_8) rfl (flt (by decide : ¬ ((255 : Int32) < (46 : Int32)))).2.2.1 ?_
    refine XS.iconst X0.here hx rfl (hb hby d15_11) ?_
    show Steps p.tables e below (s₁.setTop (mkF m 12 #[.val (.int 46)] [(.int 1)])) _
    refine XS.goto X0.here hx rfl (pc0 := 12) (pc' := 16) rfl (hb hby d15_12) (by decide) (by decide) ?_
    show Steps p.tables e below (s₁.setTop (mkF m 16 #[.val (.int 46)] [(.int 1)])) _
    exact retN X0 hx (t := .boolean) Bd.returns (by simp) (hb hby d15_16) hr
  · show QP (.int (1 : Int32)) h0 n0 _ s₁.heap _
    rw [e0]
    exact ⟨rfl, N0, rfl⟩
theorem d16_0 : decode jdk_29_method_65_code 0 = .ok (.iload_n 0, 1) := by decide +kernel
theorem d16_1 : decode jdk_29_method_65_code 1 = .ok (.iload_n 1, 1) := by decide +kernel
theorem d16_2 : decode jdk_29_method_65_code 2 = .ok (.if_icmp .lt 7, 3) := by decide +kernel
theorem d16_5 : decode jdk_29_method_65_code 5 = .ok (.iload_n 0, 1) := by decide +kernel
theorem d16_6 : decode jdk_29_method_65_code 6 = .ok (.goto 4, 3) := by decide +kernel
theorem d16_10 : decode jdk_29_method_65_code 10 = .ok (.ireturn, 1) := by decide +kernel
abbrev y16 : MethodName := ⟨"java/lang/Math", "max", "(II)I"⟩
set_option maxRecDepth 65536 in
set_option maxHeartbeats 40000000 in
theorem rmX (l : Launch) (Z : State) (a0 : Array Value) (hw : ∀ d ∈ tables_1, d.before a0 Z = true) (ws : List Jvm.Cond)  (h0 : Heap) (n0 : Nat) (O0 : Old Z n0 h0) :
    MetFree l y16 (head1 (Jvm.Cond.code y16 jdk_29_method_65_code 2 (some .int) :: ws) ({ frames := 0, cells := 0, slots := 0, locals := 0 } : Room)) (fun a_ U => a_ = #[(.int 0), (.int 0)] ∧ Z.Warmed39 U.vm ∧ U.heap = h0) (fun _ _ _ _ _ => True) (fun _ U o U' => ∃ v L, o = .returned v ∧ QP (.int (0 : Int32)) h0 n0 v U'.heap L ∧ FrameEnd U o U' L 0 0) := by
  refine MetFree.of_bodySF (Jvm.Free.JP.mathPlain rfl (by decide +kernel)) hisR ?_
  intro p e s m args below meth c s₁ Bd hml0 hP hK
  obtain ⟨rfl, hZ, hh⟩ := hP
  have hx := Bd.exec
  have hby := Bd.bytes
  have hml : c.maxLocals = 2 := hml0
  have hown : s.vm.findClass "java/lang/Math" = some m.cls := findClass_of_methodNamed Bd.named
  have hnm := (name_of_methodNamed Bd.named Bd.method).1
  have X0 : Stand p l e ({ frames := 0, cells := 0, slots := 0, locals := 0 } : Room) s m #[(.int 0), (.int 0)] below meth c s₁ [] 0 0 := Stand.of_body Bd
  have e0 : s₁.heap = h0 := by rw [← hh, Bd.state]; rfl
  have N0 := Fr.nil n0
  have pre0 : ∀ tg, Steps p.tables e below (s₁.setTop (mkF m 0 #[.val (.int 0), .val (.int 0)] [])) tg → Steps p.tables e below (s₁.setTop (entryFrame m #[(.int 0), (.int 0)] 2)) tg := fun tg kq => castTop (ef_II_2 m (0 : Int32) (0 : Int32)) kq
  obtain ⟨fs, hr, hrun, hended, hW, hsame⟩ := X0.leave (v := some (.int 0)) (fun h => by rw [Bd.returns] at h; cases h)
  refine ⟨_, _, pre0 _ ?_, hrun, hended, _, _, rfl, ?_, ⟨_, rfl⟩, hW, hsame.mono (by decide) (by decide)⟩
  · show Steps p.tables e below (s₁.setTop (mkF m 0 #[.val (.int 0), .val (.int 0)] [])) _
    refine XS.iloadN X0.here hx rfl (hb hby d16_0) rfl ?_
    refine XS.iloadN X0.here hx rfl (hb hby d16_1) rfl ?_
    refine XS.icmpNo X0.here hx rfl (hb hby d16_2) rfl (flt (by decide : ¬ ((0 : Int32) < (0 : Int32)))).1 ?_
    show Steps p.tables e below (s₁.setTop (mkF m 5 #[.val (.int 0), .val (.int 0)] [])) _
    refine XS.iloadN X0.here hx rfl (hb hby d16_5) rfl ?_
    refine XS.goto X0.here hx rfl (pc0 := 6) (pc' := 10) rfl (hb hby d16_6) (by decide) (by decide) ?_
    show Steps p.tables e below (s₁.setTop (mkF m 10 #[.val (.int 0), .val (.int 0)] [(.int 0)])) _
    exact retI X0 hx Bd.returns (hb hby d16_10) hr
  · show QP (.int (0 : Int32)) h0 n0 _ s₁.heap _
    rw [e0]
    exact ⟨rfl, N0, rfl⟩
theorem d17_0 : decode jdk_29_method_69_code 0 = .ok (.iload_n 0, 1) := by decide +kernel
theorem d17_1 : decode jdk_29_method_69_code 1 = .ok (.iload_n 1, 1) := by decide +kernel
theorem d17_2 : decode jdk_29_method_69_code 2 = .ok (.if_icmp .gt 7, 3) := by decide +kernel
theorem d17_5 : decode jdk_29_method_69_code 5 = .ok (.iload_n 0, 1) := by decide +kernel
theorem d17_6 : decode jdk_29_method_69_code 6 = .ok (.goto 4, 3) := by decide +kernel
theorem d17_10 : decode jdk_29_method_69_code 10 = .ok (.ireturn, 1) := by decide +kernel
abbrev y17 : MethodName := ⟨"java/lang/Math", "min", "(II)I"⟩
set_option maxRecDepth 65536 in
set_option maxHeartbeats 40000000 in
theorem rmN (l : Launch) (Z : State) (a0 : Array Value) (hw : ∀ d ∈ tables_1, d.before a0 Z = true) (ws : List Jvm.Cond)  (h0 : Heap) (n0 : Nat) (O0 : Old Z n0 h0) :
    MetFree l y17 (head1 (Jvm.Cond.code y17 jdk_29_method_69_code 2 (some .int) :: ws) ({ frames := 0, cells := 0, slots := 0, locals := 0 } : Room)) (fun a_ U => a_ = #[(.int 8), (.int 8)] ∧ Z.Warmed39 U.vm ∧ U.heap = h0) (fun _ _ _ _ _ => True) (fun _ U o U' => ∃ v L, o = .returned v ∧ QP (.int (8 : Int32)) h0 n0 v U'.heap L ∧ FrameEnd U o U' L 0 0) := by
  refine MetFree.of_bodySF (Jvm.Free.JP.mathPlain rfl (by decide +kernel)) hisR ?_
  intro p e s m args below meth c s₁ Bd hml0 hP hK
  obtain ⟨rfl, hZ, hh⟩ := hP
  have hx := Bd.exec
  have hby := Bd.bytes
  have hml : c.maxLocals = 2 := hml0
  have hown : s.vm.findClass "java/lang/Math" = some m.cls := findClass_of_methodNamed Bd.named
  have hnm := (name_of_methodNamed Bd.named Bd.method).1
  have X0 : Stand p l e ({ frames := 0, cells := 0, slots := 0, locals := 0 } : Room) s m #[(.int 8), (.int 8)] below meth c s₁ [] 0 0 := Stand.of_body Bd
  have e0 : s₁.heap = h0 := by rw [← hh, Bd.state]; rfl
  have N0 := Fr.nil n0
  have pre0 : ∀ tg, Steps p.tables e below (s₁.setTop (mkF m 0 #[.val (.int 8), .val (.int 8)] [])) tg → Steps p.tables e below (s₁.setTop (entryFrame m #[(.int 8), (.int 8)] 2)) tg := fun tg kq => castTop (ef_II_2 m (8 : Int32) (8 : Int32)) kq
  obtain ⟨fs, hr, hrun, hended, hW, hsame⟩ := X0.leave (v := some (.int 8)) (fun h => by rw [Bd.returns] at h; cases h)
  refine ⟨_, _, pre0 _ ?_, hrun, hended, _, _, rfl, ?_, ⟨_, rfl⟩, hW, hsame.mono (by decide) (by decide)⟩
  · show Steps p.tables e below (s₁.setTop (mkF m 0 #[.val (.int 8), .val (.int 8)] [])) _
    refine XS.iloadN X0.here hx rfl (hb hby d17_0) rfl ?_
    refine XS.iloadN X0.here hx rfl (hb hby d17_1) rfl ?_
    refine XS.icmpNo X0.here hx rfl (hb hby d17_2) rfl (flt (by decide : ¬ ((8 : Int32) < (8 : Int32)))).2.2.1 ?_
    show Steps p.tables e below (s₁.setTop (mkF m 5 #[.val (.int 8), .val (.int 8)] [])) _
    refine XS.iloadN X0.here hx rfl (hb hby d17_5) rfl ?_
    refine XS.goto X0.here hx rfl (pc0 := 6) (pc' := 10) rfl (hb hby d17_6) (by decide) (by decide) ?_
    show Steps p.tables e below (s₁.setTop (mkF m 10 #[.val (.int 8), .val (.int 8)] [(.int 8)])) _
    exact retI X0 hx Bd.returns (hb hby d17_10) hr
  · show QP (.int (8 : Int32)) h0 n0 _ s₁.heap _
    rw [e0]
    exact ⟨rfl, N0, rfl⟩
theorem d11_0 : decode jdk_42_method_154_code 0 = .ok (.getstatic 38, 3) := by decide +kernel
theorem d11_3 : decode jdk_42_method_154_code 3 = .ok (.ifCond .eq 14, 3) := by decide +kernel
theorem d11_6 : decode jdk_42_method_154_code 6 = .ok (.aload_n 0, 1) := by decide +kernel
theorem d11_7 : decode jdk_42_method_154_code 7 = .ok (.getfield 15, 3) := by decide +kernel
theorem d11_10 : decode jdk_42_method_154_code 10 = .ok (.ifCond .ne 7, 3) := by decide +kernel
theorem d11_13 : decode jdk_42_method_154_code 13 = .ok (.iconst 1, 1) := by decide +kernel
theorem d11_14 : decode jdk_42_method_154_code 14 = .ok (.goto 4, 3) := by decide +kernel
theorem d11_18 : decode jdk_42_method_154_code 18 = .ok (.ireturn, 1) := by decide +kernel
abbrev y11 : MethodName := ⟨"java/lang/String", "isLatin1", "()Z"⟩
theorem ef_R_1 (m : MethodId) (x0 : Addr) : entryFrame m #[(.ref x0)] 1 = mkF m 0 #[.val (.ref x0)] [] := by first | (simp [entryFrame, mkF, argsToLocals, Value.category]; done) | rfl
theorem pn_2 : plainName "java/lang/String" = true := by first | (simp [plainName, overriddenIn]; done) | decide +kernel
set_option maxRecDepth 65536 in
set_option maxHeartbeats 40000000 in
theorem rmL (l : Launch) (Z : State) (a0 : Array Value) (hw : ∀ d ∈ tables_1, d.before a0 Z = true) (ws : List Jvm.Cond) (G1 : Int32) (x : Addr) (h0 : Heap) (n0 : Nat) (O0 : Old Z n0 h0) (S_CS : Sta Z Z.heap "java/lang/String" "COMPACT_STRINGS" "Z" (.int G1)) (hG1 : ¬ (G1 = (0 : Int32))) (F2 : Fld Z h0 x "java/lang/String" "coder" "B" (.int (0 : Int32))) :
    MetFree l y11 (head1 (Jvm.Cond.code y11 jdk_42_method_154_code 1 (some .boolean) :: ws) ({ frames := 0, cells := 0, slots := 0, locals := 0 } : Room)) (fun a_ U => a_ = #[(.ref x)] ∧ Z.Warmed39 U.vm ∧ U.heap = h0) (fun _ _ _ _ _ => True) (fun _ U o U' => ∃ v L, o = .returned v ∧ QP (.int (1 : Int32)) h0 n0 v U'.heap L ∧ FrameEnd U o U' L 0 0) := by
  refine MetFree.of_bodySF (plainFor_of_name pn_2) hisR ?_
  intro p e s m args below meth c s₁ Bd hml0 hP hK
  obtain ⟨rfl, hZ, hh⟩ := hP
  have hx := Bd.exec
  have hby := Bd.bytes
  have hml : c.maxLocals = 1 := hml0
  have hown : s.vm.findClass "java/lang/String" = some m.cls := findClass_of_methodNamed Bd.named
  have hnm := (name_of_methodNamed Bd.named Bd.method).1
  have X0 : Stand p l e ({ frames := 0, cells := 0, slots := 0, locals := 0 } : Room) s m #[(.ref x)] below meth c s₁ [] 0 0 := Stand.of_body Bd
  have e0 : s₁.heap = h0 := by rw [← hh, Bd.state]; rfl
  have N0 := Fr.nil n0
  have pre0 : ∀ tg, Steps p.tables e below (s₁.setTop (mkF m 0 #[.val (.ref x)] [])) tg → Steps p.tables e below (s₁.setTop (entryFrame m #[(.ref x)] 1)) tg := fun tg kq => castTop (ef_R_1 m x) kq
  obtain ⟨T101, X101, e101, st101⟩ := getS2 X0 hx hZ hown (host := "") (Or.inl (wi hw 18 rfl)) Via.refl e0 (S_CS.ext O0.2) (g := (mkF m 0 #[.val (.ref x)] [])) rfl (hb hby d11_0)
  obtain ⟨T102, X102, e102, st102⟩ := getF X101 hx hZ hown (host := "") (Or.inl (wi hw 30 rfl)) Via.refl e101 F2 (g := (mkF m 7 #[.val (.ref x)] [(.ref x)])) rfl rfl (hb hby d11_7)
  obtain ⟨fs, hr, hrun, hended, hW, hsame⟩ := X102.leave (v := some (.int 1)) (fun h => by rw [Bd.returns] at h; cases h)
  refine ⟨_, _, pre0 _ ?_, hrun, hended, _, _, rfl, ?_, ⟨_, rfl⟩, hW, hsame.mono (by decide) (by decide)⟩
  · show Steps p.tables e below (s₁.setTop (mkF m 0 #[.val (.ref x)] [])) _
    refine st101 _ ?_
    show Steps p.tables e below (T101.setTop (mkF m 3 #[.val (.ref x)] [(.int G1)])) _
    refine XS.ifNo X101.here hx rfl (hb hby d11_3) rfl ((if0 _ _).trans (feq hG1).1) ?_
    refine XS.aloadN X101.here hx rfl (hb hby d11_6) rfl rfl ?_
    show Steps p.tables e below (T101.setTop (mkF m 7 #[.val (.ref x)] [(.ref x)])) _
    refine st102 _ ?_
    show Steps p.tables e below (T102.setTop (mkF m 10 #[.val (.ref x)] [(.int 0)])) _
    refine XS.ifNo X102.here hx rfl (hb hby d11_10) rfl ((if0 _ _).trans (teq (by decide : (0 : Int32) = (0 : Int32))).2) ?_
    refine XS.iconst X102.here hx rfl (hb hby d11_13) ?_
    refine XS.goto X102.here hx rfl (pc0 := 14) (pc' := 18) rfl (hb hby d11_14) (by decide) (by decide) ?_
    show Steps p.tables e below (T102.setTop (mkF m 18 #[.val (.ref x)] [(.int 1)])) _
    exact retN X102 hx (t := .boolean) Bd.returns (by simp) (hb hby d11_18) hr
  · show QP (.int (1 : Int32)) h0 n0 _ T102.heap _
    rw [e102]
    exact ⟨rfl, N0, rfl⟩
def Q11 (Z : State) (x t : Addr) (h0 : Heap) (n0 : Nat) (v : Option Value) (h : Heap) (L : List Loc) : Prop := v = none ∧ Fr n0 L ∧ Keep h0 h [x] ∧ Exa Z h x "java/lang/String" ∧ Fld Z h x "java/lang/String" "value" "[B" (.ref t) ∧ Fld Z h x "java/lang/String" "coder" "B" (.int (0 : Int32))
theorem d26_0 : decode jdk_42_method_151_code 0 = .ok (.aload_n 0, 1) := by decide +kernel
theorem d26_1 : decode jdk_42_method_151_code 1 = .ok (.invokespecial 1, 3) := by decide +kernel
theorem d26_4 : decode jdk_42_method_151_code 4 = .ok (.aload_n 0, 1) := by decide +kernel
theorem d26_5 : decode jdk_42_method_151_code 5 = .ok (.aload_n 1, 1) := by decide +kernel
theorem d26_6 : decode jdk_42_method_151_code 6 = .ok (.putfield 9, 3) := by decide +kernel
theorem d26_9 : decode jdk_42_method_151_code 9 = .ok (.aload_n 0, 1) := by decide +kernel
theorem d26_10 : decode jdk_42_method_151_code 10 = .ok (.iload_n 2, 1) := by decide +kernel
theorem d26_11 : decode jdk_42_method_151_code 11 = .ok (.putfield 15, 3) := by decide +kernel
theorem d26_14 : decode jdk_42_method_151_code 14 = .ok (.return_, 1) := by decide +kernel
abbrev y26 : MethodName := ⟨"java/lang/String", "<init>", "([BB)V"⟩
theorem ef_RRI_3 (m : MethodId) (x0 : Addr) (x1 : Addr) (x2 : Int32) : entryFrame m #[(.ref x0), (.ref x1), (.int x2)] 3 = mkF m 0 #[.val (.ref x0), .val (.ref x1), .val (.int x2)] [] := by first | (simp [entryFrame, mkF, argsToLocals, Value.category]; done) | rfl
set_option maxRecDepth 65536 in
set_option maxHeartbeats 40000000 in
theorem rm11 (l : Launch) (Z : State) (a0 : Array Value) (hw : ∀ d ∈ tables_1, d.before a0 Z = true) (ws : List Jvm.Cond) (x t : Addr) (h0 : Heap) (n0 : Nat) (O0 : Old Z n0 h0) (E : Exa Z h0 x "java/lang/String") (F1 : Fld Z h0 x "java/lang/String" "value" "[B" .null) (F2 : Fld Z h0 x "java/lang/String" "coder" "B" (.int (0 : Int32))) (gx : n0 ≤ x) :
    MetFree l y26 (head1 (Jvm.Cond.code y26 jdk_42_method_151_code 3 none :: ws) ({ frames := 1, cells := 0, slots := 0, locals := 12 } : Room)) (fun a_ U => a_ = #[(.ref x), (.ref t), (.int 0)] ∧ Z.Warmed39 U.vm ∧ U.heap = h0) (fun _ _ _ _ _ => True) (fun _ U o U' => ∃ v L, o = .returned v ∧ Q11 Z x t h0 n0 v U'.heap L ∧ FrameEnd U o U' L 0 0) := by
  refine MetFree.of_bodySF (plainFor_of_name pn_2) hisR ?_
  intro p e s m args below meth c s₁ Bd hml0 hP hK
  obtain ⟨rfl, hZ, hh⟩ := hP
  have hx := Bd.exec
  have hby := Bd.bytes
  have hml : c.maxLocals = 3 := hml0
  have hown : s.vm.findClass "java/lang/String" = some m.cls := findClass_of_methodNamed Bd.named
  have hnm := (name_of_methodNamed Bd.named Bd.method).1
  have X0 : Stand p l e ({ frames := 1, cells := 0, slots := 0, locals := 12 } : Room) s m #[(.ref x), (.ref t), (.int 0)] below meth c s₁ [] 0 0 := Stand.of_body Bd
  have e0 : s₁.heap = h0 := by rw [← hh, Bd.state]; rfl
  have N0 := Fr.nil n0
  have pre0 : ∀ tg, Steps p.tables e below (s₁.setTop (mkF m 0 #[.val (.ref x), .val (.ref t), .val (.int 0)] [])) tg → Steps p.tables e below (s₁.setTop (entryFrame m #[(.ref x), (.ref t), (.int 0)] 3)) tg := fun tg kq => castTop (ef_RRI_3 m x t (0 : Int32)) kq
  obtain ⟨T101, X101, e101, st101⟩ := initO X0 hx hZ hown (wi hw 15 rfl) (wi hw 16 rfl) (wi hw 17 rfl) e0 (g := (mkF m 1 #[.val (.ref x), .val (.ref t), .val (.int 0)] [(.ref x)])) rfl (by rw [hml]; rfl) rfl (hb hby d26_1) (by decide) (W := 0) (by show 2 * 0 + _ ≤ _; exact Nat.le_of_eq rfl) (by decide)
  obtain ⟨T102, h102, X102, e102, W102, st102⟩ := putF X101 hx hZ hown (host := "") (Or.inl (wi hw 32 rfl)) Via.refl e101 F1 E (Or.inr ⟨(wi hw 33 rfl), rfl, hnm⟩) (wi hw 6 rfl) (ty := (.array .byte)) (by decide) rfl rfl (g := (mkF m 6 #[.val (.ref x), .val (.ref t), .val (.int 0)] [(.ref t), (.ref x)])) rfl rfl (hb hby d26_6)
  have Fw102 := F1.same W102
  have O102 := O0.wr W102 gx
  have KK102 : Keep h0 h102 [x] := (Keep.refl h0 [x]).wr W102 (Or.inl (List.mem_of_getElem? (i := 0) rfl))
  have N102 := Fr.snoc X102 N0 gx
  have fE_x_1_103 := (E.wr W102)
  have fString_coder_1_104 := (F2.other W102 (Or.inr (slot_ne (Or.inr (wi hw 31 rfl)) (Or.inr (wi hw 33 rfl)) (by decide) (t := .byte) (t' := (.array .byte)) (by decide) (by decide))))
  obtain ⟨T105, h105, X105, e105, W105, st105⟩ := putF X102 hx hZ hown (host := "") (Or.inl (wi hw 30 rfl)) Via.refl e102 fString_coder_1_104 fE_x_1_103 (Or.inr ⟨(wi hw 31 rfl), rfl, hnm⟩) (wi hw 6 rfl) (ty := .byte) (by decide) rfl rfl (g := (mkF m 11 #[.val (.ref x), .val (.ref t), .val (.int 0)] [(.int 0), (.ref x)])) rfl rfl (hb hby d26_11)
  have Fw105 := fString_coder_1_104.same W105
  have O105 := O102.wr W105 gx
  have KK105 : Keep h0 h105 [x] := KK102.wr W105 (Or.inl (List.mem_of_getElem? (i := 0) rfl))
  have N105 := Fr.snoc X105 N102 gx
  have fE_x_2_106 := (fE_x_1_103.wr W105)
  have fString_value_2_107 := (Fw102.other W105 (Or.inr (slot_ne (Or.inr (wi hw 33 rfl)) (Or.inr (wi hw 31 rfl)) (by decide) (t := (.array .byte)) (t' := .byte) (by decide) (by decide))))
  obtain ⟨fs, hr, hrun, hended, hW, hsame⟩ := X105.leave (v := none) (fun _ => rfl)
  refine ⟨_, _, pre0 _ ?_, hrun, hended, _, _, rfl, ?_, ⟨_, rfl⟩, hW, hsame.mono (by decide) (by decide)⟩
  · show Steps p.tables e below (s₁.setTop (mkF m 0 #[.val (.ref x), .val (.ref t), .val (.int 0)] [])) _
    refine XS.aloadN X0.here hx rfl (hb hby d26_0) rfl rfl ?_
    show Steps p.tables e below (s₁.setTop (mkF m 1 #[.val (.ref x), .val (.ref t), .val (.int 0)] [(.ref x)])) _
    refine st101 _ ?_
    show Steps p.tables e below (T101.setTop (mkF m 4 #[.val (.ref x), .val (.ref t), .val (.int 0)] [])) _
    refine XS.aloadN X101.here hx rfl (hb hby d26_4) rfl rfl ?_
    refine XS.aloadN X101.here hx rfl (hb hby d26_5) rfl rfl ?_
    show Steps p.tables e below (T101.setTop (mkF m 6 #[.val (.ref x), .val (.ref t), .val (.int 0)] [(.ref t), (.ref x)])) _
    refine st102 _ ?_
    show Steps p.tables e below (T102.setTop (mkF m 9 #[.val (.ref x), .val (.ref t), .val (.int 0)] [])) _
    refine XS.aloadN X102.here hx rfl (hb hby d26_9) rfl rfl ?_
    refine XS.iloadN X102.here hx rfl (hb hby d26_10) rfl ?_
    show Steps p.tables e below (T102.setTop (mkF m 11 #[.val (.ref x), .val (.ref t), .val (.int 0)] [(.int 0), (.ref x)])) _
    refine st105 _ ?_
    show Steps p.tables e below (T105.setTop (mkF m 14 #[.val (.ref x), .val (.ref t), .val (.int 0)] [])) _
    exact X105.returnOut hx Bd.returns (hb hby d26_14) hr
  · show Q11 Z x t h0 n0 _ T105.heap _
    rw [e105]
    exact ⟨rfl, N105, KK105, fE_x_2_106, fString_value_2_107, Fw105⟩
def QB (Z : State) (n : Int32) (vs : List Value) (h0 : Heap) (n0 : Nat) (v : Option Value) (h : Heap) (L : List Loc) : Prop := ∃ (b : Addr) (kb : ClassId), v = some (.ref b) ∧ Fr n0 L ∧ Keep h0 h [] ∧ h0.size ≤ b ∧ Arv Z h b kb .byte n vs (.int (0 : Int32))
def QS (Z : State) (cs : List Int32) (h0 : Heap) (n0 : Nat) (v : Option Value) (h : Heap) (L : List Loc) : Prop := ∃ x : Addr, v = some (.ref x) ∧ Fr n0 L ∧ Keep h0 h [] ∧ h0.size ≤ x ∧ Str Z h x cs
theorem d25_0 : decode jdk_65_method_131_code 0 = .ok (.iload_n 1, 1) := by decide +kernel
theorem d25_1 : decode jdk_65_method_131_code 1 = .ok (.iload_n 0, 1) := by decide +kernel
theorem d25_2 : decode jdk_65_method_131_code 2 = .ok (.if_icmp .ge 35, 3) := by decide +kernel
theorem d25_37 : decode jdk_65_method_131_code 37 = .ok (.return_, 1) := by decide +kernel
abbrev y25 : MethodName := ⟨"java/util/Arrays", "checkLength", "(II)V"⟩
theorem pn_3 : plainName "java/util/Arrays" = true := by first | (simp [plainName, overriddenIn]; done) | decide +kernel
set_option maxRecDepth 65536 in
set_option maxHeartbeats 40000000 in
theorem rmCL (l : Launch) (Z : State) (a0 : Array Value) (hw : ∀ d ∈ tables_1, d.before a0 Z = true) (ws : List Jvm.Cond) (mm : Int32) (h0 : Heap) (n0 : Nat) (O0 : Old Z n0 h0) (hm0 : ¬ (mm < (0 : Int32))) :
    MetFree l y25 (head1 (Jvm.Cond.code y25 jdk_65_method_131_code 2 none :: ws) ({ frames := 0, cells := 0, slots := 0, locals := 0 } : Room)) (fun a_ U => a_ = #[(.int 0), (.int mm)] ∧ Z.Warmed39 U.vm ∧ U.heap = h0) (fun _ _ _ _ _ => True) (fun _ U o U' => ∃ v L, o = .returned v ∧ QN h0 n0 v U'.heap L ∧ FrameEnd U o U' L 0 0) := by
  refine MetFree.of_bodySF (plainFor_of_name pn_3) hisR ?_
  intro p e s m args below meth c s₁ Bd hml0 hP hK
  obtain ⟨rfl, hZ, hh⟩ := hP
  have hx := Bd.exec
  have hby := Bd.bytes
  have hml : c.maxLocals = 2 := hml0
  have hown : s.vm.findClass "java/util/Arrays" = some m.cls := findClass_of_methodNamed Bd.named
  have hnm := (name_of_methodNamed Bd.named Bd.method).1
  have X0 : Stand p l e ({ frames := 0, cells := 0, slots := 0, locals := 0 } : Room) s m #[(.int 0), (.int mm)] below meth c s₁ [] 0 0 := Stand.of_body Bd
  have e0 : s₁.heap = h0 := by rw [← hh, Bd.state]; rfl
  have N0 := Fr.nil n0
  have pre0 : ∀ tg, Steps p.tables e below (s₁.setTop (mkF m 0 #[.val (.int 0), .val (.int mm)] [])) tg → Steps p.tables e below (s₁.setTop (entryFrame m #[(.int 0), (.int mm)] 2)) tg := fun tg kq => castTop (ef_II_2 m (0 : Int32) mm) kq
  obtain ⟨fs, hr, hrun, hended, hW, hsame⟩ := X0.leave (v := none) (fun _ => rfl)
  refine ⟨_, _, pre0 _ ?_, hrun, hended, _, _, rfl, ?_, ⟨_, rfl⟩, hW, hsame.mono (by decide) (by decide)⟩
  · show Steps p.tables e below (s₁.setTop (mkF m 0 #[.val (.int 0), .val (.int mm)] [])) _
    refine XS.iloadN X0.here hx rfl (hb hby d25_0) rfl ?_
    refine XS.iloadN X0.here hx rfl (hb hby d25_1) rfl ?_
    refine XS.icmpYes X0.here hx rfl (pc0 := 2) (pc' := 37) rfl (hb hby d25_2) rfl (flt hm0).2.1 (by decide) (by decide) ?_
    show Steps p.tables e below (s₁.setTop (mkF m 37 #[.val (.int 0), .val (.int mm)] [])) _
    exact X0.returnOut hx Bd.returns (hb hby d25_37) hr
  · show QN h0 n0 _ s₁.heap _
    rw [e0]
    exact ⟨rfl, N0, rfl⟩
theorem d17_9 : decode jdk_29_method_69_code 9 = .ok (.iload_n 1, 1) := by decide +kernel
set_option maxRecDepth 65536 in
set_option maxHeartbeats 40000000 in
theorem rmNm (l : Launch) (Z : State) (a0 : Array Value) (hw : ∀ d ∈ tables_1, d.before a0 Z = true) (ws : List Jvm.Cond) (mm : Int32) (h0 : Heap) (n0 : Nat) (O0 : Old Z n0 h0) (hm : mm < (8 : Int32)) :
    MetFree l y17 (head1 (Jvm.Cond.code y17 jdk_29_method_69_code 2 (some .int) :: ws) ({ frames := 0, cells := 0, slots := 0, locals := 0 } : Room)) (fun a_ U => a_ = #[(.int 8), (.int mm)] ∧ Z.Warmed39 U.vm ∧ U.heap = h0) (fun _ _ _ _ _ => True) (fun _ U o U' => ∃ v L, o = .returned v ∧ QP (.int mm) h0 n0 v U'.heap L ∧ FrameEnd U o U' L 0 0) := by
  refine MetFree.of_bodySF (Jvm.Free.JP.mathPlain rfl (by decide +kernel)) hisR ?_
  intro p e s m args below meth c s₁ Bd hml0 hP hK
  obtain ⟨rfl, hZ, hh⟩ := hP
  have hx := Bd.exec
  have hby := Bd.bytes
  have hml : c.maxLocals = 2 := hml0
  have hown : s.vm.findClass "java/lang/Math" = some m.cls := findClass_of_methodNamed Bd.named
  have hnm := (name_of_methodNamed Bd.named Bd.method).1
  have X0 : Stand p l e ({ frames := 0, cells := 0, slots := 0, locals := 0 } : Room) s m #[(.int 8), (.int mm)] below meth c s₁ [] 0 0 := Stand.of_body Bd
  have e0 : s₁.heap = h0 := by rw [← hh, Bd.state]; rfl
  have N0 := Fr.nil n0
  have pre0 : ∀ tg, Steps p.tables e below (s₁.setTop (mkF m 0 #[.val (.int 8), .val (.int mm)] [])) tg → Steps p.tables e below (s₁.setTop (entryFrame m #[(.int 8), (.int mm)] 2)) tg := fun tg kq => castTop (ef_II_2 m (8 : Int32) mm) kq
  obtain ⟨fs, hr, hrun, hended, hW, hsame⟩ := X0.leave (v := some (.int mm)) (fun h => by rw [Bd.returns] at h; cases h)
  refine ⟨_, _, pre0 _ ?_, hrun, hended, _, _, rfl, ?_, ⟨_, rfl⟩, hW, hsame.mono (by decide) (by decide)⟩
  · show Steps p.tables e below (s₁.setTop (mkF m 0 #[.val (.int 8), .val (.int mm)] [])) _
    refine XS.iloadN X0.here hx rfl (hb hby d17_0) rfl ?_
    refine XS.iloadN X0.here hx rfl (hb hby d17_1) rfl ?_
    refine XS.icmpYes X0.here hx rfl (pc0 := 2) (pc' := 9) rfl (hb hby d17_2) rfl (tlt hm).2.2.1 (by decide) (by decide) ?_
    show Steps p.tables e below (s₁.setTop (mkF m 9 #[.val (.int 8), .val (.int mm)] [])) _
    refine XS.iloadN X0.here hx rfl (hb hby d17_9) rfl ?_
    show Steps p.tables e below (s₁.setTop (mkF m 10 #[.val (.int 8), .val (.int mm)] [(.int mm)])) _
    exact retI X0 hx Bd.returns (hb hby d17_10) hr
  · show QP (.int mm) h0 n0 _ s₁.heap _
    rw [e0]
    exact ⟨rfl, N0, rfl⟩
theorem d21_0 : decode jdk_41_method_12_code 0 = .ok (.iload_n 0, 1) := by decide +kernel
theorem d21_1 : decode jdk_41_method_12_code 1 = .ok (.ifCond .lt 13, 3) := by decide +kernel
theorem d21_4 : decode jdk_41_method_12_code 4 = .ok (.iload_n 0, 1) := by decide +kernel
theorem d21_5 : decode jdk_41_method_12_code 5 = .ok (.iload_n 1, 1) := by decide +kernel
theorem d21_6 : decode jdk_41_method_12_code 6 = .ok (.if_icmp .gt 8, 3) := by decide +kernel
theorem d21_9 : decode jdk_41_method_12_code 9 = .ok (.iload_n 1, 1) := by decide +kernel
theorem d21_10 : decode jdk_41_method_12_code 10 = .ok (.iload_n 2, 1) := by decide +kernel
theorem d21_11 : decode jdk_41_method_12_code 11 = .ok (.if_icmp .le 11, 3) := by decide +kernel
theorem d21_22 : decode jdk_41_method_12_code 22 = .ok (.iload_n 0, 1) := by decide +kernel
theorem d21_23 : decode jdk_41_method_12_code 23 = .ok (.ireturn, 1) := by decide +kernel
abbrev y21 : MethodName := ⟨"jdk/internal/util/Preconditions", "checkFromToIndex", "(IIILjava/util/function/BiFunction;)I"⟩
theorem ef_IIIN_4 (m : MethodId) (x0 : Int32) (x1 : Int32) (x2 : Int32) : entryFrame m #[(.int x0), (.int x1), (.int x2), .null] 4 = mkF m 0 #[.val (.int x0), .val (.int x1), .val (.int x2), .val .null] [] := by first | (simp [entryFrame, mkF, argsToLocals, Value.category]; done) | rfl
theorem pn_4 : plainName "jdk/internal/util/Preconditions" = true := by first | (simp [plainName, overriddenIn]; done) | decide +kernel
set_option maxRecDepth 65536 in
set_option maxHeartbeats 40000000 in
theorem rmFT_n (l : Launch) (Z : State) (a0 : Array Value) (hw : ∀ d ∈ tables_1, d.before a0 Z = true) (ws : List Jvm.Cond) (mm : Int32) (h0 : Heap) (n0 : Nat) (O0 : Old Z n0 h0) (hm0 : ¬ (mm < (0 : Int32))) (hm8 : ¬ ((8 : Int32) < mm)) :
    MetFree l y21 (head1 (Jvm.Cond.code y21 jdk_41_method_12_code 4 (some .int) :: ws) ({ frames := 0, cells := 0, slots := 0, locals := 0 } : Room)) (fun a_ U => a_ = #[(.int 0), (.int mm), (.int 8), .null] ∧ Z.Warmed39 U.vm ∧ U.heap = h0) (fun _ _ _ _ _ => True) (fun _ U o U' => ∃ v L, o = .returned v ∧ QP (.int (0 : Int32)) h0 n0 v U'.heap L ∧ FrameEnd U o U' L 0 0) := by
  refine MetFree.of_bodySF (plainFor_of_name pn_4) hisR ?_
  intro p e s m args below meth c s₁ Bd hml0 hP hK
  obtain ⟨rfl, hZ, hh⟩ := hP
  have hx := Bd.exec
  have hby := Bd.bytes
  have hml : c.maxLocals = 4 := hml0
  have hown : s.vm.findClass "jdk/internal/util/Preconditions" = some m.cls := findClass_of_methodNamed Bd.named
  have hnm := (name_of_methodNamed Bd.named Bd.method).1
  have X0 : Stand p l e ({ frames := 0, cells := 0, slots := 0, locals := 0 } : Room) s m #[(.int 0), (.int mm), (.int 8), .null] below meth c s₁ [] 0 0 := Stand.of_body Bd
  have e0 : s₁.heap = h0 := by rw [← hh, Bd.state]; rfl
  have N0 := Fr.nil n0
  have pre0 : ∀ tg, Steps p.tables e below (s₁.setTop (mkF m 0 #[.val (.int 0), .val (.int mm), .val (.int 8), .val .null] [])) tg → Steps p.tables e below (s₁.setTop (entryFrame m #[(.int 0), (.int mm), (.int 8), .null] 4)) tg := fun tg kq => castTop (ef_IIIN_4 m (0 : Int32) mm (8 : Int32)) kq
  obtain ⟨fs, hr, hrun, hended, hW, hsame⟩ := X0.leave (v := some (.int 0)) (fun h => by rw [Bd.returns] at h; cases h)
  refine ⟨_, _, pre0 _ ?_, hrun, hended, _, _, rfl, ?_, ⟨_, rfl⟩, hW, hsame.mono (by decide) (by decide)⟩
  · show Steps p.tables e below (s₁.setTop (mkF m 0 #[.val (.int 0), .val (.int mm), .val (.int 8), .val .null] [])) _
    refine XS.iloadN X0.here hx rfl (hb hby d21_0) rfl ?_
    refine XS.ifNo X0.here hx rfl (hb hby d21_1) rfl ((if0 _ _).trans (flt (by decide : ¬ ((0 : Int32) < (0 : Int32)))).1) ?_
    refine XS.iloadN X0.here hx rfl (hb hby d21_4) rfl ?_
    show Steps p.tables e below (s₁.setTop (mkF m 5 #[.val (.int 0), .val (.int mm), .val (.int 8), .val .null] [(.int 0)])) _
    refine XS.iloadN X0.here hx rfl (hb hby d21_5) rfl ?_
    refine XS.icmpNo X0.here hx rfl (hb hby d21_6) rfl (flt hm0).2.2.1 ?_
    refine XS.iloadN X0.here hx rfl (hb hby d21_9) rfl ?_
    show Steps p.tables e below (s₁.setTop (mkF m 10 #[.val (.int 0), .val (.int mm), .val (.int 8), .val .null] [(.int mm)])) _
    refine XS.iloadN X0.here hx rfl (hb hby d21_10) rfl ?_
    refine XS.icmpYes X0.here hx rfl (pc0 := 11) (pc' := 22) rfl (hb hby d21_11) rfl (flt hm8).2.2.2 (by decide) (by decide) ?_
    refine XS.iloadN X0.here hx rfl (hb hby d21_22) rfl ?_
    show Steps p.tables e below (s₁.setTop (mkF m 23 #[.val (.int 0), .val (.int mm), .val (.int 8), .val .null] [(.int 0)])) _
    exact retI X0 hx Bd.returns (hb hby d21_23) hr
  · show QP (.int (0 : Int32)) h0 n0 _ s₁.heap _
    rw [e0]
    exact ⟨rfl, N0, rfl⟩
theorem d20_0 : decode jdk_42_method_158_code 0 = .ok (.iload_n 0, 1) := by decide +kernel
theorem d20_1 : decode jdk_42_method_158_code 1 = .ok (.iload_n 1, 1) := by decide +kernel
theorem d20_2 : decode jdk_42_method_158_code 2 = .ok (.iload_n 2, 1) := by decide +kernel
theorem d20_3 : decode jdk_42_method_158_code 3 = .ok (.getstatic 1053, 3) := by decide +kernel
theorem d20_6 : decode jdk_42_method_158_code 6 = .ok (.invokestatic 1062, 3) := by decide +kernel
theorem pd_0 : parseMethodDescriptor "(IIILjava/util/function/BiFunction;)I" = some ⟨[.int, .int, .int, (.object "java/util/function/BiFunction")], some .int⟩ := by decide +kernel
theorem d20_9 : decode jdk_42_method_158_code 9 = .ok (.pop, 1) := by decide +kernel
theorem d20_10 : decode jdk_42_method_158_code 10 = .ok (.return_, 1) := by decide +kernel
abbrev y20 : MethodName := ⟨"java/lang/String", "checkBoundsBeginEnd", "(III)V"⟩
theorem ef_III_3 (m : MethodId) (x0 : Int32) (x1 : Int32) (x2 : Int32) : entryFrame m #[(.int x0), (.int x1), (.int x2)] 3 = mkF m 0 #[.val (.int x0), .val (.int x1), .val (.int x2)] [] := by first | (simp [entryFrame, mkF, argsToLocals, Value.category]; done) | rfl
set_option maxRecDepth 65536 in
set_option maxHeartbeats 40000000 in
theorem rmBE_n (l : Launch) (Z : State) (a0 : Array Value) (hw : ∀ d ∈ tables_1, d.before a0 Z = true) (ws : List Jvm.Cond) (mm : Int32) (h0 : Heap) (n0 : Nat) (O0 : Old Z n0 h0) (S_SF : Sta Z Z.heap "jdk/internal/util/Preconditions" "SIOOBE_FORMATTER" "Ljava/util/function/BiFunction;" .null) (hm0 : ¬ (mm < (0 : Int32))) (hm8 : ¬ ((8 : Int32) < mm)) :
    MetFree l y20 (head1 (Jvm.Cond.code y20 jdk_42_method_158_code 3 none :: ws) ({ frames := 1, cells := 0, slots := 0, locals := 15 } : Room)) (fun a_ U => a_ = #[(.int 0), (.int mm), (.int 8)] ∧ Z.Warmed39 U.vm ∧ U.heap = h0) (fun _ _ _ _ _ => True) (fun _ U o U' => ∃ v L, o = .returned v ∧ QN h0 n0 v U'.heap L ∧ FrameEnd U o U' L 0 0) := by
  refine MetFree.of_bodySF (plainFor_of_name pn_2) hisR ?_
  intro p e s m args below meth c s₁ Bd hml0 hP hK
  obtain ⟨rfl, hZ, hh⟩ := hP
  have hx := Bd.exec
  have hby := Bd.bytes
  have hml : c.maxLocals = 3 := hml0
  have hown : s.vm.findClass "java/lang/String" = some m.cls := findClass_of_methodNamed Bd.named
  have hnm := (name_of_methodNamed Bd.named Bd.method).1
  have X0 : Stand p l e ({ frames := 1, cells := 0, slots := 0, locals := 15 } : Room) s m #[(.int 0), (.int mm), (.int 8)] below meth c s₁ [] 0 0 := Stand.of_body Bd
  have e0 : s₁.heap = h0 := by rw [← hh, Bd.state]; rfl
  have N0 := Fr.nil n0
  have pre0 : ∀ tg, Steps p.tables e below (s₁.setTop (mkF m 0 #[.val (.int 0), .val (.int mm), .val (.int 8)] [])) tg → Steps p.tables e below (s₁.setTop (entryFrame m #[(.int 0), (.int mm), (.int 8)] 3)) tg := fun tg kq => castTop (ef_III_3 m (0 : Int32) mm (8 : Int32)) kq
  obtain ⟨T101, X101, e101, st101⟩ := getS2 X0 hx hZ hown (host := "") (Or.inl (wi hw 88 rfl)) Via.refl e0 (S_SF.ext O0.2) (g := (mkF m 3 #[.val (.int 0), .val (.int mm), .val (.int 8)] [(.int 8), (.int mm), (.int 0)])) rfl (hb hby d20_3)
  obtain ⟨_, _, ⟨T102, L102, k102, n102⟩, -, X102, ⟨Lc102, hQ102, l102, y102, z102⟩, st102⟩ := Jvm.LawKit.callS X101 hx (y := y21) hown (mvT hZ (wi hw 90 rfl)) (mvT hZ (wi hw 91 rfl)) (mvT hZ (wi hw 89 rfl)) (mvT hZ (wi hw 92 rfl)) (by decide) (backOf (W := 0) (rmFT_n l Z a0 hw [] mm h0 n0 O0 hm0 hm8) hZ (wi hw 92 rfl) (wi hw 89 rfl) (by decide) (by decide)) (g := (mkF m 6 #[.val (.int 0), .val (.int mm), .val (.int 8)] [.null, (.int 8), (.int mm), (.int 0)])) rfl (by rw [hml]; rfl) (argsL := [(.int 0), (.int mm), (.int 8), .null]) (rest := []) (lenOf pd_0 rfl) rfl (by show 2 * 0 + _ ≤ _; exact Nat.le_of_eq rfl) (hb hby d20_6) (fun _ _ => ⟨rfl, e101, (by decide : 0 + 0 ≤ _), (by decide : 0 + 0 ≤ _)⟩)
  dsimp only [Pt.U, Pt.locs, Pt.cells, Pt.slots] at X102 l102 y102 z102 st102 hQ102
  subst l102 y102 z102
  obtain ⟨rfl, N102q, hh102⟩ := hQ102
  have e102 : T102.heap = h0 := hh102
  have N102 := Fr.app N0 N102q
  obtain ⟨fs, hr, hrun, hended, hW, hsame⟩ := X102.leave (v := none) (fun _ => rfl)
  refine ⟨_, _, pre0 _ ?_, hrun, hended, _, _, rfl, ?_, ⟨_, rfl⟩, hW, hsame.mono (by decide) (by decide)⟩
  · show Steps p.tables e below (s₁.setTop (mkF m 0 #[.val (.int 0), .val (.int mm), .val (.int 8)] [])) _
    refine XS.iloadN X0.here hx rfl (hb hby d20_0) rfl ?_
    refine XS.iloadN X0.here hx rfl (hb hby d20_1) rfl ?_
    refine XS.iloadN X0.here hx rfl (hb hby d20_2) rfl ?_
    show Steps p.tables e below (s₁.setTop (mkF m 3 #[.val (.int 0), .val (.int mm), .val (.int 8)] [(.int 8), (.int mm), (.int 0)])) _
    refine st101 _ ?_
    show Steps p.tables e below (T101.setTop (mkF m 6 #[.val (.int 0), .val (.int mm), .val (.int 8)] [.null, (.int 8), (.int mm), (.int 0)])) _
    refine st102 _ ?_
    show Steps p.tables e below (T102.setTop (mkF m 9 #[.val (.int 0), .val (.int mm), .val (.int 8)] [(.int 0)])) _
    refine XS.pop X102.here hx rfl (hb hby d20_9) rfl rfl ?_
    show Steps p.tables e below (T102.setTop (mkF m 10 #[.val (.int 0), .val (.int mm), .val (.int 8)] [])) _
    exact X102.returnOut hx Bd.returns (hb hby d20_10) hr
  · show QN h0 n0 _ T102.heap _
    rw [e102]
    exact ⟨rfl, N102, rfl⟩
theorem ef_IIIR_4 (m : MethodId) (x0 : Int32) (x1 : Int32) (x2 : Int32) (x3 : Addr) : entryFrame m #[(.int x0), (.int x1), (.int x2), (.ref x3)] 4 = mkF m 0 #[.val (.int x0), .val (.int x1), .val (.int x2), .val (.ref x3)] [] := by first | (simp [entryFrame, mkF, argsToLocals, Value.category]; done) | rfl
set_option maxRecDepth 65536 in
set_option maxHeartbeats 40000000 in
theorem rmFT_r (l : Launch) (Z : State) (a0 : Array Value) (hw : ∀ d ∈ tables_1, d.before a0 Z = true) (ws : List Jvm.Cond) (mm : Int32) (f : Addr) (h0 : Heap) (n0 : Nat) (O0 : Old Z n0 h0) (hm0 : ¬ (mm < (0 : Int32))) (hm8 : ¬ ((8 : Int32) < mm)) :
    MetFree l y21 (head1 (Jvm.Cond.code y21 jdk_41_method_12_code 4 (some .int) :: ws) ({ frames := 0, cells := 0, slots := 0, locals := 0 } : Room)) (fun a_ U => a_ = #[(.int 0), (.int mm), (.int 8), (.ref f)] ∧ Z.Warmed39 U.vm ∧ U.heap = h0) (fun _ _ _ _ _ => True) (fun _ U o U' => ∃ v L, o = .returned v ∧ QP (.int (0 : Int32)) h0 n0 v U'.heap L ∧ FrameEnd U o U' L 0 0) := by
  refine MetFree.of_bodySF (plainFor_of_name pn_4) hisR ?_
  intro p e s m args below meth c s₁ Bd hml0 hP hK
  obtain ⟨rfl, hZ, hh⟩ := hP
  have hx := Bd.exec
  have hby := Bd.bytes
  have hml : c.maxLocals = 4 := hml0
  have hown : s.vm.findClass "jdk/internal/util/Preconditions" = some m.cls := findClass_of_methodNamed Bd.named
  have hnm := (name_of_methodNamed Bd.named Bd.method).1
  have X0 : Stand p l e ({ frames := 0, cells := 0, slots := 0, locals := 0 } : Room) s m #[(.int 0), (.int mm), (.int 8), (.ref f)] below meth c s₁ [] 0 0 := Stand.of_body Bd
  have e0 : s₁.heap = h0 := by rw [← hh, Bd.state]; rfl
  have N0 := Fr.nil n0
  have pre0 : ∀ tg, Steps p.tables e below (s₁.setTop (mkF m 0 #[.val (.int 0), .val (.int mm), .val (.int 8), .val (.ref f)] [])) tg → Steps p.tables e below (s₁.setTop (entryFrame m #[(.int 0), (.int mm), (.int 8), (.ref f)] 4)) tg := fun tg kq => castTop (ef_IIIR_4 m (0 : Int32) mm (8 : Int32) f) kq
  obtain ⟨fs, hr, hrun, hended, hW, hsame⟩ := X0.leave (v := some (.int 0)) (fun h => by rw [Bd.returns] at h; cases h)
  refine ⟨_, _, pre0 _ ?_, hrun, hended, _, _, rfl, ?_, ⟨_, rfl⟩, hW, hsame.mono (by decide) (by decide)⟩
  · show Steps p.tables e below (s₁.setTop (mkF m 0 #[.val (.int 0), .val (.int mm), .val (.int 8), .val (.ref f)] [])) _
    refine XS.iloadN X0.here hx rfl (hb hby d21_0) rfl ?_
    refine XS.ifNo X0.here hx rfl (hb hby d21_1) rfl ((if0 _ _).trans (flt (by decide : ¬ ((0 : Int32) < (0 : Int32)))).1) ?_
    refine XS.iloadN X0.here hx rfl (hb hby d21_4) rfl ?_
    show Steps p.tables e below (s₁.setTop (mkF m 5 #[.val (.int 0), .val (.int mm), .val (.int 8), .val (.ref f)] [(.int 0)])) _
    refine XS.iloadN X0.here hx rfl (hb hby d21_5) rfl ?_
    refine XS.icmpNo X0.here hx rfl (hb hby d21_6) rfl (flt hm0).2.2.1 ?_
    refine XS.iloadN X0.here hx rfl (hb hby d21_9) rfl ?_
    show Steps p.tables e below (s₁.setTop (mkF m 10 #[.val (.int 0), .val (.int mm), .val (.int 8), .val (.ref f)] [(.int mm)])) _
    refine XS.iloadN X0.here hx rfl (hb hby d21_10) rfl ?_
    refine XS.icmpYes X0.here hx rfl (pc0 := 11) (pc' := 22) rfl (hb hby d21_11) rfl (flt hm8).2.2.2 (by decide) (by decide) ?_
    refine XS.iloadN X0.here hx rfl (hb hby d21_22) rfl ?_
    show Steps p.tables e below (s₁.setTop (mkF m 23 #[.val (.int 0), .val (.int mm), .val (.int 8), .val (.ref f)] [(.int 0)])) _
    exact retI X0 hx Bd.returns (hb hby d21_23) hr
  · show QP (.int (0 : Int32)) h0 n0 _ s₁.heap _
    rw [e0]
    exact ⟨rfl, N0, rfl⟩
set_option maxRecDepth 65536 in
set_option maxHeartbeats 40000000 in
theorem rmBE_r (l : Launch) (Z : State) (a0 : Array Value) (hw : ∀ d ∈ tables_1, d.before a0 Z = true) (ws : List Jvm.Cond) (mm : Int32) (f : Addr) (h0 : Heap) (n0 : Nat) (O0 : Old Z n0 h0) (S_SF : Sta Z Z.heap "jdk/internal/util/Preconditions" "SIOOBE_FORMATTER" "Ljava/util/function/BiFunction;" (.ref f)) (hm0 : ¬ (mm < (0 : Int32))) (hm8 : ¬ ((8 : Int32) < mm)) :
    MetFree l y20 (head1 (Jvm.Cond.code y20 jdk_42_method_158_code 3 none :: ws) ({ frames := 1, cells := 0, slots := 0, locals := 15 } : Room)) (fun a_ U => a_ = #[(.int 0), (.int mm), (.int 8)] ∧ Z.Warmed39 U.vm ∧ U.heap = h0) (fun _ _ _ _ _ => True) (fun _ U o U' => ∃ v L, o = .returned v ∧ QN h0 n0 v U'.heap L ∧ FrameEnd U o U' L 0 0) := by
  refine MetFree.of_bodySF (plainFor_of_name pn_2) hisR ?_
  intro p e s m args below meth c s₁ Bd hml0 hP hK
  obtain ⟨rfl, hZ, hh⟩ := hP
  have hx := Bd.exec
  have hby := Bd.bytes
  have hml : c.maxLocals = 3 := hml0
  have hown : s.vm.findClass "java/lang/String" = some m.cls := findClass_of_methodNamed Bd.named
  have hnm := (name_of_methodNamed Bd.named Bd.method).1
  have X0 : Stand p l e ({ frames := 1, cells := 0, slots := 0, locals := 15 } : Room) s m #[(.int 0), (.int mm), (.int 8)] below meth c s₁ [] 0 0 := Stand.of_body Bd
  have e0 : s₁.heap = h0 := by rw [← hh, Bd.state]; rfl
  have N0 := Fr.nil n0
  have pre0 : ∀ tg, Steps p.tables e below (s₁.setTop (mkF m 0 #[.val (.int 0), .val (.int mm), .val (.int 8)] [])) tg → Steps p.tables e below (s₁.setTop (entryFrame m #[(.int 0), (.int mm), (.int 8)] 3)) tg := fun tg kq => castTop (ef_III_3 m (0 : Int32) mm (8 : Int32)) kq
  obtain ⟨T101, X101, e101, st101⟩ := getS2 X0 hx hZ hown (host := "") (Or.inl (wi hw 88 rfl)) Via.refl e0 (S_SF.ext O0.2) (g := (mkF m 3 #[.val (.int 0), .val (.int mm), .val (.int 8)] [(.int 8), (.int mm), (.int 0)])) rfl (hb hby d20_3)
  obtain ⟨_, _, ⟨T102, L102, k102, n102⟩, -, X102, ⟨Lc102, hQ102, l102, y102, z102⟩, st102⟩ := Jvm.LawKit.callS X101 hx (y := y21) hown (mvT hZ (wi hw 90 rfl)) (mvT hZ (wi hw 91 rfl)) (mvT hZ (wi hw 89 rfl)) (mvT hZ (wi hw 92 rfl)) (by decide) (backOf (W := 0) (rmFT_r l Z a0 hw [] mm f h0 n0 O0 hm0 hm8) hZ (wi hw 92 rfl) (wi hw 89 rfl) (by decide) (by decide)) (g := (mkF m 6 #[.val (.int 0), .val (.int mm), .val (.int 8)] [(.ref f), (.int 8), (.int mm), (.int 0)])) rfl (by rw [hml]; rfl) (argsL := [(.int 0), (.int mm), (.int 8), (.ref f)]) (rest := []) (lenOf pd_0 rfl) rfl (by show 2 * 0 + _ ≤ _; exact Nat.le_of_eq rfl) (hb hby d20_6) (fun _ _ => ⟨rfl, e101, (by decide : 0 + 0 ≤ _), (by decide : 0 + 0 ≤ _)⟩)
  dsimp only [Pt.U, Pt.locs, Pt.cells, Pt.slots] at X102 l102 y102 z102 st102 hQ102
  subst l102 y102 z102
  obtain ⟨rfl, N102q, hh102⟩ := hQ102
  have e102 : T102.heap = h0 := hh102
  have N102 := Fr.app N0 N102q
  obtain ⟨fs, hr, hrun, hended, hW, hsame⟩ := X102.leave (v := none) (fun _ => rfl)
  refine ⟨_, _, pre0 _ ?_, hrun, hended, _, _, rfl, ?_, ⟨_, rfl⟩, hW, hsame.mono (by decide) (by decide)⟩
  · show Steps p.tables e below (s₁.setTop (mkF m 0 #[.val (.int 0), .val (.int mm), .val (.int 8)] [])) _
    refine XS.iloadN X0.here hx rfl (hb hby d20_0) rfl ?_
    refine XS.iloadN X0.here hx rfl (hb hby d20_1) rfl ?_
    refine XS.iloadN X0.here hx rfl (hb hby d20_2) rfl ?_
    show Steps p.tables e below (s₁.setTop (mkF m 3 #[.val (.int 0), .val (.int mm), .val (.int 8)] [(.int 8), (.int mm), (.int 0)])) _
    refine st101 _ ?_
    show Steps p.tables e below (T101.setTop (mkF m 6 #[.val (.int 0), .val (.int mm), .val (.int 8)] [(.ref f), (.int 8), (.int mm), (.int 0)])) _
    refine st102 _ ?_
    show Steps p.tables e below (T102.setTop (mkF m 9 #[.val (.int 0), .val (.int mm), .val (.int 8)] [(.int 0)])) _
    refine XS.pop X102.here hx rfl (hb hby d20_9) rfl rfl ?_
    show Steps p.tables e below (T102.setTop (mkF m 10 #[.val (.int 0), .val (.int mm), .val (.int 8)] [])) _
    exact X102.returnOut hx Bd.returns (hb hby d20_10) hr
  · show QN h0 n0 _ T102.heap _
    rw [e102]
    exact ⟨rfl, N102, rfl⟩
theorem rmBE (l : Launch) (Z : State) (a0 : Array Value) (hw : ∀ d ∈ tables_1, d.before a0 Z = true) (ws : List Jvm.Cond) (mm : Int32) (G3 : Value) (h0 : Heap) (n0 : Nat) (O0 : Old Z n0 h0) (S_SF : Sta Z Z.heap "jdk/internal/util/Preconditions" "SIOOBE_FORMATTER" "Ljava/util/function/BiFunction;" G3) (rG3 : G3.isRef = true) (hm0 : ¬ (mm < (0 : Int32))) (hm8 : ¬ ((8 : Int32) < mm)) :
    MetFree l y20 (head1 (Jvm.Cond.code y20 jdk_42_method_158_code 3 none :: ws) ({ frames := 1, cells := 0, slots := 0, locals := 15 } : Room)) (fun a_ U => a_ = #[(.int 0), (.int mm), (.int 8)] ∧ Z.Warmed39 U.vm ∧ U.heap = h0) (fun _ _ _ _ _ => True) (fun _ U o U' => ∃ v L, o = .returned v ∧ QN h0 n0 v U'.heap L ∧ FrameEnd U o U' L 0 0) := by
  rcases ref_cases rG3 with rfl | ⟨f, rfl⟩
  · exact rmBE_n l Z a0 hw ws mm h0 n0 O0 S_SF hm0 hm8
  · exact rmBE_r l Z a0 hw ws mm f h0 n0 O0 S_SF hm0 hm8
theorem own_sub0 (x : Int32) : x - (0 : Int32) = x := by simp
theorem own_0add (x : Int32) : (0 : Int32) + x = x := by simp
theorem own_z0 : (0 : Int32).toNatClampNeg = 0 := by decide
theorem own_z8 : (8 : Int32).toNatClampNeg = 8 := by decide
theorem own_rep {m : Nat} {dv : Value} {us : List Value} : (List.replicate m dv).take 0 ++ us ++ (List.replicate m dv).drop (0 + m) = us := by simp
theorem own_hus {vs us : List Value} {dv : Value} {n : Int32} {m : Nat} (q : n.toNatClampNeg = m) (h : us = (List.range m).map (fun i => vs.getD i dv)) : us = (List.range n.toNatClampNeg).map fun i => vs.getD ((0 : Int32).toNatClampNeg + i) dv := by
  rw [q, own_z0]; simp only [Nat.zero_add]; exact h
theorem own_cod {cs : List Int32} {N : Int32} {vs : List Value} (h : StrChars.Road.CodA cs 0 N vs) : N = Int32.ofNat cs.length ∧ vs = cs.map (fun c => Value.int (StrChars.lo8 c)) := by
  rcases h with ⟨-, h1, h2, -⟩ | ⟨h, -⟩
  · exact ⟨h1, h2⟩
  · exact absurd h (by decide)
def CrOK (n : Int32) (m : Nat) (vs us : List Value) : Prop := ¬ n < (0 : Int32) ∧ n < (8 : Int32) ∧ ¬ (8 : Int32) < n ∧ ¬ n = (8 : Int32) ∧ ¬ n = (0 : Int32) ∧ n.toNatClampNeg = m ∧ m ≤ 8 ∧ us = (List.range m).map (fun i => vs.getD i (.int (0 : Int32)))
theorem d18_0 : decode jdk_43_method_23_code 0 = .ok (.iload_n 1, 1) := by decide +kernel
theorem d18_1 : decode jdk_43_method_23_code 1 = .ok (.i2b, 1) := by decide +kernel
theorem d18_2 : decode jdk_43_method_23_code 2 = .ok (.istore 4, 2) := by decide +kernel
theorem d18_4 : decode jdk_43_method_23_code 4 = .ok (.iload_n 2, 1) := by decide +kernel
theorem d18_5 : decode jdk_43_method_23_code 5 = .ok (.istore 5, 2) := by decide +kernel
theorem d18_7 : decode jdk_43_method_23_code 7 = .ok (.iload 5, 2) := by decide +kernel
theorem d18_9 : decode jdk_43_method_23_code 9 = .ok (.iload_n 3, 1) := by decide +kernel
theorem d18_10 : decode jdk_43_method_23_code 10 = .ok (.if_icmp .ge 21, 3) := by decide +kernel
theorem d18_13 : decode jdk_43_method_23_code 13 = .ok (.aload_n 0, 1) := by decide +kernel
theorem d18_14 : decode jdk_43_method_23_code 14 = .ok (.iload 5, 2) := by decide +kernel
theorem d18_16 : decode jdk_43_method_23_code 16 = .ok (.baload, 1) := by decide +kernel
theorem d18_17 : decode jdk_43_method_23_code 17 = .ok (.iload 4, 2) := by decide +kernel
theorem d18_19 : decode jdk_43_method_23_code 19 = .ok (.if_icmp .ne 6, 3) := by decide +kernel
theorem d18_25 : decode jdk_43_method_23_code 25 = .ok (.iinc 5 1, 3) := by decide +kernel
theorem d18_28 : decode jdk_43_method_23_code 28 = .ok (.goto (-21), 3) := by decide +kernel
theorem d18_22 : decode jdk_43_method_23_code 22 = .ok (.iload 5, 2) := by decide +kernel
theorem d18_24 : decode jdk_43_method_23_code 24 = .ok (.ireturn, 1) := by decide +kernel
abbrev y18 : MethodName := ⟨"java/lang/StringLatin1", "indexOfChar", "([BIII)I"⟩
theorem ef_RIII_6 (m : MethodId) (x0 : Addr) (x1 : Int32) (x2 : Int32) (x3 : Int32) : entryFrame m #[(.ref x0), (.int x1), (.int x2), (.int x3)] 6 = mkF m 0 #[.val (.ref x0), .val (.int x1), .val (.int x2), .val (.int x3), .unset, .unset] [] := by first | (simp [entryFrame, mkF, argsToLocals, Value.category]; done) | rfl
set_option maxRecDepth 65536 in
set_option maxHeartbeats 40000000 in
theorem rmIC_1 (l : Launch) (Z : State) (a0 : Array Value) (hw : ∀ d ∈ tables_1, d.before a0 Z = true) (ws : List Jvm.Cond) (t : Addr) (kb : ClassId) (b0 b1 b2 b3 b4 b5 b6 b7 : Int32) (h0 : Heap) (n0 : Nat) (O0 : Old Z n0 h0) (K : Arv Z h0 t kb .byte (8 : Int32) [(.int b0), (.int 46), (.int b2), (.int b3), (.int b4), (.int b5), (.int b6), (.int b7)] (.int (0 : Int32))) (hn0 : ¬ (b0 = (46 : Int32))) :
    MetFree l y18 (head1 (Jvm.Cond.code y18 jdk_43_method_23_code 6 (some .int) :: ws) ({ frames := 0, cells := 0, slots := 0, locals := 0 } : Room)) (fun a_ U => a_ = #[(.ref t), (.int 46), (.int 0), (.int 8)] ∧ Z.Warmed39 U.vm ∧ U.heap = h0) (fun _ _ _ _ _ => True) (fun _ U o U' => ∃ v L, o = .returned v ∧ QP (.int (1 : Int32)) h0 n0 v U'.heap L ∧ FrameEnd U o U' L 0 0) := by
  refine MetFree.of_bodySF (plainFor_of_name pn_1) hisR ?_
  intro p e s m args below meth c s₁ Bd hml0 hP hK
  obtain ⟨rfl, hZ, hh⟩ := hP
  have hx := Bd.exec
  have hby := Bd.bytes
  have hml : c.maxLocals = 6 := hml0
  have hown : s.vm.findClass "java/lang/StringLatin1" = some m.cls := findClass_of_methodNamed Bd.named
  have hnm := (name_of_methodNamed Bd.named Bd.method).1
  have X0 : Stand p l e ({ frames := 0, cells := 0, slots := 0, locals := 0 } : Room) s m #[(.ref t), (.int 46), (.int 0), (.int 8)] below meth c s₁ [] 0 0 := Stand.of_body Bd
  have e0 : s₁.heap = h0 := by rw [← hh, Bd.state]; rfl
  have N0 := Fr.nil n0
  have pre0 : ∀ tg, Steps p.tables e below (s₁.setTop (mkF m 0 #[.val (.ref t), .val (.int 46), .val (.int 0), .val (.int 8), .unset, .unset] [])) tg → Steps p.tables e below (s₁.setTop (entryFrame m #[(.ref t), (.int 46), (.int 0), (.int 8)] 6)) tg := fun tg kq => castTop (ef_RIII_6 m t (46 : Int32) (0 : Int32) (8 : Int32)) kq
  obtain ⟨cl_t_22, Ar_t_22, q_t_22, S_t_22, N_t_22, H_t_22, G_t_22⟩ := id (K)
  have hint_22 : ¬ ((0 : Int32) < 0 ∨ cl_t_22.slots.size ≤ ((0 : Int32)).toNatClampNeg) := inb_of S_t_22 ⟨by decide, by decide⟩
  have hatt_22 : cl_t_22.slots[((0 : Int32)).toNatClampNeg]? = some (.int b0) := H_t_22.at hint_22 rfl
  obtain ⟨cl_t_42, Ar_t_42, q_t_42, S_t_42, N_t_42, H_t_42, G_t_42⟩ := id (K)
  have hint_42 : ¬ ((1 : Int32) < 0 ∨ cl_t_42.slots.size ≤ ((1 : Int32)).toNatClampNeg) := inb_of S_t_42 ⟨by decide, by decide⟩
  have hatt_42 : cl_t_42.slots[((1 : Int32)).toNatClampNeg]? = some (.int 46) := H_t_42.at hint_42 rfl
  obtain ⟨fs, hr, hrun, hended, hW, hsame⟩ := X0.leave (v := some (.int 1)) (fun h => by rw [Bd.returns] at h; cases h)
  refine ⟨_, _, pre0 _ ?_, hrun, hended, _, _, rfl, ?_, ⟨_, rfl⟩, hW, hsame.mono (by decide) (by decide)⟩
  · show Steps p.tables e below (s₁.setTop (mkF m 0 #[.val (.ref t), .val (.int 46), .val (.int 0), .val (.int 8), .unset, .unset] [])) _
    refine XS.iloadN X0.here hx rfl (hb hby d18_0) rfl ?_
    show Steps p.tables e below (s₁.setTop (mkF m 1 #[.val (.ref t), .val (.int 46), .val (.int 0), .val (.int 8), .unset, .unset] [(.int 46)])) _
    refine XS.i2b X0.here hx rfl (hb hby d18_1) rfl ?_
    rw [show ((46 : Int32).toInt8.toInt32) = (46 : Int32) from by decide]
    show Steps p.tables e below (s₁.setTop (mkF m 2 #[.val (.ref t), .val (.int 46), .val (.int 0), .val (.int 8), .unset, .unset] [(.int 46)])) _
    refine XS.istore X0.here hx rfl (hb hby d18_2) rfl (l' := #[.val (.ref t), .val (.int 46), .val (.int 0), .val (.int 8), .val (.int 46), .unset]) rfl ?_
    refine XS.iloadN X0.here hx rfl (hb hby d18_4) rfl ?_
    refine XS.istore X0.here hx rfl (hb hby d18_5) rfl (l' := #[.val (.ref t), .val (.int 46), .val (.int 0), .val (.int 8), .val (.int 46), .val (.int 0)]) rfl ?_
    show Steps p.tables e below (s₁.setTop (mkF m 7 #[.val (.ref t), .val (.int 46), .val (.int 0), .val (.int 8), .val (.int 46), .val (.int 0)] [])) _
    refine XS.iload X0.here hx rfl (hb hby d18_7) rfl ?_
    refine XS.iloadN X0.here hx rfl (hb hby d18_9) rfl ?_
    refine XS.icmpNo X0.here hx rfl (hb hby d18_10) rfl (tlt (by decide : (0 : Int32) < (8 : Int32))).2.1 ?_
    show Steps p.tables e below (s₁.setTop (mkF m 13 #[.val (.ref t), .val (.int 46), .val (.int 0), .val (.int 8), .val (.int 46), .val (.int 0)] [])) _
    refine XS.aloadN X0.here hx rfl (hb hby d18_13) rfl rfl ?_
    refine XS.iload X0.here hx rfl (hb hby d18_14) rfl ?_
    show Steps p.tables e below (s₁.setTop (mkF m 16 #[.val (.ref t), .val (.int 46), .val (.int 0), .val (.int 8), .val (.int 46), .val (.int 0)] [(.int 0), (.ref t)])) _
    refine X0.baloadBytes hx (j := (0 : Int32)) (v := (.int b0)) (by rw [e0]; exact Ar_t_22.1) (State.isArrayOf_alike hZ.alike Ar_t_22.2.1) Ar_t_22.2.2 hint_22 hatt_22 (g := (mkF m 16 #[.val (.ref t), .val (.int 46), .val (.int 0), .val (.int 8), .val (.int 46), .val (.int 0)] [(.int 0), (.ref t)])) rfl rfl (hb hby d18_16) _ ?_
    show Steps p.tables e below (s₁.setTop (mkF m 17 #[.val (.ref t), .val (.int 46), .val (.int 0), .val (.int 8), .val (.int 46), .val (.int 0)] [(.int b0)])) _
    refine XS.iload X0.here hx rfl (hb hby d18_17) rfl ?_
    refine XS.icmpYes X0.here hx rfl (pc0 := 19) (pc' := 25) rfl (hb hby d18_19) rfl (feq hn0).2 (by decide) (by decide) ?_
    refine XS.iinc X0.here hx rfl (hb hby d18_25) rfl (l' := #[.val (.ref t), .val (.int 46), .val (.int 0), .val (.int 8), .val (.int 46), .val (.int 1)]) rfl ?_
    show Steps p.tables e below (s₁.setTop (mkF m 28 #[.val (.ref t), .val (.int 46), .val (.int 0), .val (.int 8), .val (.int 46), .val (.int 1)] [])) _
    refine XS.goto X0.here hx rfl (pc0 := 28) (pc' := 7) rfl (hb hby d18_28) (by decide) (by decide) ?_
    refine XS.iload X0.here hx rfl (hb hby d18_7) rfl ?_
    refine XS.iloadN X0.here hx rfl (hb hby d18_9) rfl ?_
    show Steps p.tables e below (s₁.setTop (mkF m 10 #[.val (.ref t), .val (.int 46), .val (.int 0), .val (.int 8), .val (.int 46), .val (.int 1)] [(.int 8), (.int 1)])) _
    refine XS.icmpNo X0.here hx rfl (hb hby d18_10) rfl (tlt (by decide : (1 : Int32) < (8 : Int32))).2.1 ?_
    refine XS.aloadN X0.here hx rfl (hb hby d18_13) rfl rfl ?_
    refine XS.iload X0.here hx rfl (hb hby d18_14) rfl ?_
    show Steps p.tables e below (s₁.setTop (mkF m 16 #[.val (.ref t), .val (.int 46), .val (.int 0), .val (.int 8), .val (.int 46), .val (.int 1)] [(.int 1), (.ref t)])) _
    refine X0.baloadBytes hx (j := (1 : Int32)) (v := (.int 46)) (by rw [e0]; exact Ar_t_42.1) (State.isArrayOf_alike hZ.alike Ar_t_42.2.1) Ar_t_42.2.2 hint_42 hatt_42 (g := (mkF m 16 #[.val (.ref t), .val (.int 46), .val (.int 0), .val (.int 8), .val (.int 46), .val (.int 1)] [(.int 1), (.ref t)])) rfl rfl (hb hby d18_16) _ ?_
    show Steps p.tables e below (s₁.setTop (mkF m 17 #[.val (.ref t), .val (.int 46), .val (.int 0), .val (.int 8), .val (.int 46), .val (.int 1)] [(.int 46)])) _
    refine XS.iload X0.here hx rfl (hb hby d18_17) rfl ?_
    refine XS.icmpNo X0.here hx rfl (hb hby d18_19) rfl (teq (by decide : (46 : Int32) = (46 : Int32))).2 ?_
    refine XS.iload X0.here hx rfl (hb hby d18_22) rfl ?_
    show Steps p.tables e below (s₁.setTop (mkF m 24 #[.val (.ref t), .val (.int 46), .val (.int 0), .val (.int 8), .val (.int 46), .val (.int 1)] [(.int 1)])) _
    exact retI X0 hx Bd.returns (hb hby d18_24) hr
  · show QP (.int (1 : Int32)) h0 n0 _ s₁.heap _
    rw [e0]
    exact ⟨rfl, N0, rfl⟩
set_option maxRecDepth 65536 in
set_option maxHeartbeats 40000000 in
theorem rmIC_2 (l : Launch) (Z : State) (a0 : Array Value) (hw : ∀ d ∈ tables_1, d.before a0 Z = true) (ws : List Jvm.Cond) (t : Addr) (kb : ClassId) (b0 b1 b2 b3 b4 b5 b6 b7 : Int32) (h0 : Heap) (n0 : Nat) (O0 : Old Z n0 h0) (K : Arv Z h0 t kb .byte (8 : Int32) [(.int b0), (.int b1), (.int 46), (.int b3), (.int b4), (.int b5), (.int b6), (.int b7)] (.int (0 : Int32))) (hn0 : ¬ (b0 = (46 : Int32))) (hn1 : ¬ (b1 = (46 : Int32))) :
    MetFree l y18 (head1 (Jvm.Cond.code y18 jdk_43_method_23_code 6 (some .int) :: ws) ({ frames := 0, cells := 0, slots := 0, locals := 0 } : Room)) (fun a_ U => a_ = #[(.ref t), (.int 46), (.int 0), (.int 8)] ∧ Z.Warmed39 U.vm ∧ U.heap = h0) (fun _ _ _ _ _ => True) (fun _ U o U' => ∃ v L, o = .returned v ∧ QP (.int (2 : Int32)) h0 n0 v U'.heap L ∧ FrameEnd U o U' L 0 0) := by
  refine MetFree.of_bodySF (plainFor_of_name pn_1) hisR ?_
  intro p e s m args below meth c s₁ Bd hml0 hP hK
  obtain ⟨rfl, hZ, hh⟩ := hP
  have hx := Bd.exec
  have hby := Bd.bytes
  have hml : c.maxLocals = 6 := hml0
  have hown : s.vm.findClass "java/lang/StringLatin1" = some m.cls := findClass_of_methodNamed Bd.named
  have hnm := (name_of_methodNamed Bd.named Bd.method).1
  have X0 : Stand p l e ({ frames := 0, cells := 0, slots := 0, locals := 0 } : Room) s m #[(.ref t), (.int 46), (.int 0), (.int 8)] below meth c s₁ [] 0 0 := Stand.of_body Bd
  have e0 : s₁.heap = h0 := by rw [← hh, Bd.state]; rfl
  have N0 := Fr.nil n0
  have pre0 : ∀ tg, Steps p.tables e below (s₁.setTop (mkF m 0 #[.val (.ref t), .val (.int 46), .val (.int 0), .val (.int 8), .unset, .unset] [])) tg → Steps p.tables e below (s₁.setTop (entryFrame m #[(.ref t), (.int 46), (.int 0), (.int 8)] 6)) tg := fun tg kq => castTop (ef_RIII_6 m t (46 : Int32) (0 : Int32) (8 : Int32)) kq
  obtain ⟨cl_t_22, Ar_t_22, q_t_22, S_t_22, N_t_22, H_t_22, G_t_22⟩ := id (K)
  have hint_22 : ¬ ((0 : Int32) < 0 ∨ cl_t_22.slots.size ≤ ((0 : Int32)).toNatClampNeg) := inb_of S_t_22 ⟨by decide, by decide⟩
  have hatt_22 : cl_t_22.slots[((0 : Int32)).toNatClampNeg]? = some (.int b0) := H_t_22.at hint_22 rfl
  obtain ⟨cl_t_42, Ar_t_42, q_t_42, S_t_42, N_t_42, H_t_42, G_t_42⟩ := id (K)
  have hint_42 : ¬ ((1 : Int32) < 0 ∨ cl_t_42.slots.size ≤ ((1 : Int32)).toNatClampNeg) := inb_of S_t_42 ⟨by decide, by decide⟩
  have hatt_42 : cl_t_42.slots[((1 : Int32)).toNatClampNeg]? = some (.int b1) := H_t_42.at hint_42 rfl
  obtain ⟨cl_t_62, Ar_t_62, q_t_62, S_t_62, N_t_62, H_t_62, G_t_62⟩ := id (K)
  have hint_62 : ¬ ((2 : Int32) < 0 ∨ cl_t_62.slots.size ≤ ((2 : Int32)).toNatClampNeg) := inb_of S_t_62 ⟨by decide, by decide⟩
  have hatt_62 : cl_t_62.slots[((2 : Int32)).toNatClampNeg]? = some (.int 46) := H_t_62.at hint_62 rfl
  obtain ⟨fs, hr, hrun, hended, hW, hsame⟩ := X0.leave (v := some (.int 2)) (fun h => by rw [Bd.returns] at h; cases h)
  refine ⟨_, _, pre0 _ ?_, hrun, hended, _, _, rfl, ?_, ⟨_, rfl⟩, hW, hsame.mono (by decide) (by decide)⟩
  · show Steps p.tables e below (s₁.setTop (mkF m 0 #[.val (.ref t), .val (.int 46), .val (.int 0), .val (.int 8), .unset, .unset] [])) _
    refine XS.iloadN X0.here hx rfl (hb hby d18_0) rfl ?_
    show Steps p.tables e below (s₁.setTop (mkF m 1 #[.val (.ref t), .val (.int 46), .val (.int 0), .val (.int 8), .unset, .unset] [(.int 46)])) _
    refine XS.i2b X0.here hx rfl (hb hby d18_1) rfl ?_
    rw [show ((46 : Int32).toInt8.toInt32) = (46 : Int32) from by decide]
    show Steps p.tables e below (s₁.setTop (mkF m 2 #[.val (.ref t), .val (.int 46), .val (.int 0), .val (.int 8), .unset, .unset] [(.int 46)])) _
    refine XS.istore X0.here hx rfl (hb hby d18_2) rfl (l' := #[.val (.ref t), .val (.int 46), .val (.int 0), .val (.int 8), .val (.int 46), .unset]) rfl ?_
    refine XS.iloadN X0.here hx rfl (hb hby d18_4) rfl ?_
    refine XS.istore X0.here hx rfl (hb hby d18_5) rfl (l' := #[.val (.ref t), .val (.int 46), .val (.int 0), .val (.int 8), .val (.int 46), .val (.int 0)]) rfl ?_
    show Steps p.tables e below (s₁.setTop (mkF m 7 #[.val (.ref t), .val (.int 46), .val (.int 0), .val (.int 8), .val (.int 46), .val (.int 0)] [])) _
    refine XS.iload X0.here hx rfl (hb hby d18_7) rfl ?_
    refine XS.iloadN X0.here hx rfl (hb hby d18_9) rfl ?_
    refine XS.icmpNo X0.here hx rfl (hb hby d18_10) rfl (tlt (by decide : (0 : Int32) < (8 : Int32))).2.1 ?_
    show Steps p.tables e below (s₁.setTop (mkF m 13 #[.val (.ref t), .val (.int 46), .val (.int 0), .val (.int 8), .val (.int 46), .val (.int 0)] [])) _
    refine XS.aloadN X0.here hx rfl (hb hby d18_13) rfl rfl ?_
    refine XS.iload X0.here hx rfl (hb hby d18_14) rfl ?_
    show Steps p.tables e below (s₁.setTop (mkF m 16 #[.val (.ref t), .val (.int 46), .val (.int 0), .val (.int 8), .val (.int 46), .val (.int 0)] [(.int 0), (.ref t)])) _
    refine X0.baloadBytes hx (j := (0 : Int32)) (v := (.int b0)) (by rw [e0]; exact Ar_t_22.1) (State.isArrayOf_alike hZ.alike Ar_t_22.2.1) Ar_t_22.2.2 hint_22 hatt_22 (g := (mkF m 16 #[.val (.ref t), .val (.int 46), .val (.int 0), .val (.int 8), .val (.int 46), .val (.int 0)] [(.int 0), (.ref t)])) rfl rfl (hb hby d18_16) _ ?_
    show Steps p.tables e below (s₁.setTop (mkF m 17 #[.val (.ref t), .val (.int 46), .val (.int 0), .val (.int 8), .val (.int 46), .val (.int 0)] [(.int b0)])) _
    refine XS.iload X0.here hx rfl (hb hby d18_17) rfl ?_
    refine XS.icmpYes X0.here hx rfl (pc0 := 19) (pc' := 25) rfl (hb hby d18_19) rfl (feq hn0).2 (by decide) (by decide) ?_
    refine XS.iinc X0.here hx rfl (hb hby d18_25) rfl (l' := #[.val (.ref t), .val (.int 46), .val (.int 0), .val (.int 8), .val (.int 46), .val (.int 1)]) rfl ?_
    show Steps p.tables e below (s₁.setTop (mkF m 28 #[.val (.ref t), .val (.int 46), .val (.int 0), .val (.int 8), .val (.int 46), .val (.int 1)] [])) _
    refine XS.goto X0.here hx rfl (pc0 := 28) (pc' := 7) rfl (hb hby d18_28) (by decide) (by decide) ?_
    refine XS.iload X0.here hx rfl (hb hby d18_7) rfl ?_
    refine XS.iloadN X0.here hx rfl (hb hby d18_9) rfl ?_
    show Steps p.tables e below (s₁.setTop (mkF m 10 #[.val (.ref t), .val (.int 46), .val (.int 0), .val (.int 8), .val (.int 46), .val (.int 1)] [(.int 8), (.int 1)])) _
    refine XS.icmpNo X0.here hx rfl (hb hby d18_10) rfl (tlt (by decide : (1 : Int32) < (8 : Int32))).2.1 ?_
    refine XS.aloadN X0.here hx rfl (hb hby d18_13) rfl rfl ?_
    refine XS.iload X0.here hx rfl (hb hby d18_14) rfl ?_
    show Steps p.tables e below (s₁.setTop (mkF m 16 #[.val (.ref t), .val (.int 46), .val (.int 0), .val (.int 8), .val (.int 46), .val (.int 1)] [(.int 1), (.ref t)])) _
    refine X0.baloadBytes hx (j := (1 : Int32)) (v := (.int b1)) (by rw [e0]; exact Ar_t_42.1) (State.isArrayOf_alike hZ.alike Ar_t_42.2.1) Ar_t_42.2.2 hint_42 hatt_42 (g := (mkF m 16 #[.val (.ref t), .val (.int 46), .val (.int 0), .val (.int 8), .val (.int 46), .val (.int 1)] [(.int 1), (.ref t)])) rfl rfl (hb hby d18_16) _ ?_
    show Steps p.tables e below (s₁.setTop (mkF m 17 #[.val (.ref t), .val (.int 46), .val (.int 0), .val (.int 8), .val (.int 46), .val (.int 1)] [(.int b1)])) _
    refine XS.iload X0.here hx rfl (hb hby d18_17) rfl ?_
    refine XS.icmpYes X0.here hx rfl (pc0 := 19) (pc' := 25) rfl (hb hby d18_19) rfl (feq hn1).2 (by decide) (by decide) ?_
    refine XS.iinc X0.here hx rfl (hb hby d18_25) rfl (l' := #[.val (.ref t), .val (.int 46), .val (.int 0), .val (.int 8), .val (.int 46), .val (.int 2)]) rfl ?_
    show Steps p.tables e below (s₁.setTop (mkF m 28 #[.val (.ref t), .val (.int 46), .val (.int 0), .val (.int 8), .val (.int 46), .val (.int 2)] [])) _
    refine XS.goto X0.here hx rfl (pc0 := 28) (pc' := 7) rfl (hb hby d18_28) (by decide) (by decide) ?_
    refine XS.iload X0.here hx rfl (hb hby d18_7) rfl ?_
    refine XS.iloadN X0.here hx rfl (hb hby d18_9) rfl ?_
    show Steps p.tables e below (s₁.setTop (mkF m 10 #[.val (.ref t), .val (.int 46), .val (.int 0), .val (.int 8), .val (.int 46), .val (.int 2)] [(.int 8), (.int 2)])) _
    refine XS.icmpNo X0.here hx rfl (hb hby d18_10) rfl (tlt (by decide : (2 : Int32) < (8 : Int32))).2.1 ?_
    refine XS.aloadN X0.here hx rfl (hb hby d18_13) rfl rfl ?_
    refine XS.iload X0.here hx rfl (hb hby d18_14) rfl ?_
    show Steps p.tables e below (s₁.setTop (mkF m 16 #[.val (.ref t), .val (.int 46), .val (.int 0), .val (.int 8), .val (.int 46), .val (.int 2)] [(.int 2), (.ref t)])) _
    refine X0.baloadBytes hx (j := (2 : Int32)) (v := (.int 46)) (by rw [e0]; exact Ar_t_62.1) (State.isArrayOf_alike hZ.alike Ar_t_62.2.1) Ar_t_62.2.2 hint_62 hatt_62 (g := (mkF m 16 #[.val (.ref t), .val (.int 46), .val (.int 0), .val (.int 8), .val (.int 46), .val (.int 2)] [(.int 2), (.ref t)])) rfl rfl (hb hby d18_16) _ ?_
    show Steps p.tables e below (s₁.setTop (mkF m 17 #[.val (.ref t), .val (.int 46), .val (.int 0), .val (.int 8), .val (.int 46), .val (.int 2)] [(.int 46)])) _
    refine XS.iload X0.here hx rfl (hb hby d18_17) rfl ?_
    refine XS.icmpNo X0.here hx rfl (hb hby d18_19) rfl (teq (by decide : (46 : Int32) = (46 : Int32))).2 ?_
    refine XS.iload X0.here hx rfl (hb hby d18_22) rfl ?_
    show Steps p.tables e below (s₁.setTop (mkF m 24 #[.val (.ref t), .val (.int 46), .val (.int 0), .val (.int 8), .val (.int 46), .val (.int 2)] [(.int 2)])) _
    exact retI X0 hx Bd.returns (hb hby d18_24) hr
  · show QP (.int (2 : Int32)) h0 n0 _ s₁.heap _
    rw [e0]
    exact ⟨rfl, N0, rfl⟩
set_option maxRecDepth 65536 in
set_option maxHeartbeats 40000000 in
theorem rmIC_3 (l : Launch) (Z : State) (a0 : Array Value) (hw : ∀ d ∈ tables_1, d.before a0 Z = true) (ws : List Jvm.Cond) (t : Addr) (kb : ClassId) (b0 b1 b2 b3 b4 b5 b6 b7 : Int32) (h0 : Heap) (n0 : Nat) (O0 : Old Z n0 h0) (K : Arv Z h0 t kb .byte (8 : Int32) [(.int b0), (.int b1), (.int b2), (.int 46), (.int b4), (.int b5), (.int b6), (.int b7)] (.int (0 : Int32))) (hn0 : ¬ (b0 = (46 : Int32))) (hn1 : ¬ (b1 = (46 : Int32))) (hn2 : ¬ (b2 = (46 : Int32))) :
    MetFree l y18 (head1 (Jvm.Cond.code y18 jdk_43_method_23_code 6 (some .int) :: ws) ({ frames := 0, cells := 0, slots := 0, locals := 0 } : Room)) (fun a_ U => a_ = #[(.ref t), (.int 46), (.int 0), (.int 8)] ∧ Z.Warmed39 U.vm ∧ U.heap = h0) (fun _ _ _ _ _ => True) (fun _ U o U' => ∃ v L, o = .returned v ∧ QP (.int (3 : Int32)) h0 n0 v U'.heap L ∧ FrameEnd U o U' L 0 0) := by
  refine MetFree.of_bodySF (plainFor_of_name pn_1) hisR ?_
  intro p e s m args below meth c s₁ Bd hml0 hP hK
  obtain ⟨rfl, hZ, hh⟩ := hP
  have hx := Bd.exec
  have hby := Bd.bytes
  have hml : c.maxLocals = 6 := hml0
  have hown : s.vm.findClass "java/lang/StringLatin1" = some m.cls := findClass_of_methodNamed Bd.named
  have hnm := (name_of_methodNamed Bd.named Bd.method).1
  have X0 : Stand p l e ({ frames := 0, cells := 0, slots := 0, locals := 0 } : Room) s m #[(.ref t), (.int 46), (.int 0), (.int 8)] below meth c s₁ [] 0 0 := Stand.of_body Bd
  have e0 : s₁.heap = h0 := by rw [← hh, Bd.state]; rfl
  have N0 := Fr.nil n0
  have pre0 : ∀ tg, Steps p.tables e below (s₁.setTop (mkF m 0 #[.val (.ref t), .val (.int 46), .val (.int 0), .val (.int 8), .unset, .unset] [])) tg → Steps p.tables e below (s₁.setTop (entryFrame m #[(.ref t), (.int 46), (.int 0), (.int 8)] 6)) tg := fun tg kq => castTop (ef_RIII_6 m t (46 : Int32) (0 : Int32) (8 : Int32)) kq
  obtain ⟨cl_t_22, Ar_t_22, q_t_22, S_t_22, N_t_22, H_t_22, G_t_22⟩ := id (K)
  have hint_22 : ¬ ((0 : Int32) < 0 ∨ cl_t_22.slots.size ≤ ((0 : Int32)).toNatClampNeg) := inb_of S_t_22 ⟨by decide, by decide⟩
  have hatt_22 : cl_t_22.slots[((0 : Int32)).toNatClampNeg]? = some (.int b0) := H_t_22.at hint_22 rfl
  obtain ⟨cl_t_42, Ar_t_42, q_t_42, S_t_42, N_t_42, H_t_42, G_t_42⟩ := id (K)
  have hint_42 : ¬ ((1 : Int32) < 0 ∨ cl_t_42.slots.size ≤ ((1 : Int32)).toNatClampNeg) := inb_of S_t_42 ⟨by decide, by decide⟩
  have hatt_42 : cl_t_42.slots[((1 : Int32)).toNatClampNeg]? = some (.int b1) := H_t_42.at hint_42 rfl
  obtain ⟨cl_t_62, Ar_t_62, q_t_62, S_t_62, N_t_62, H_t_62, G_t_62⟩ := id (K)
  have hint_62 : ¬ ((2 : Int32) < 0 ∨ cl_t_62.slots.size ≤ ((2 : Int32)).toNatClampNeg) := inb_of S_t_62 ⟨by decide, by decide⟩
  have hatt_62 : cl_t_62.slots[((2 : Int32)).toNatClampNeg]? = some (.int b2) := H_t_62.at hint_62 rfl
  obtain ⟨cl_t_82, Ar_t_82, q_t_82, S_t_82, N_t_82, H_t_82, G_t_82⟩ := id (K)
  have hint_82 : ¬ ((3 : Int32) < 0 ∨ cl_t_82.slots.size ≤ ((3 : Int32)).toNatClampNeg) := inb_of S_t_82 ⟨by decide, by decide⟩
  have hatt_82 : cl_t_82.slots[((3 : Int32)).toNatClampNeg]? = some (.int 46) := H_t_82.at hint_82 rfl
  obtain ⟨fs, hr, hrun, hended, hW, hsame⟩ := X0.leave (v := some (.int 3)) (fun h => by rw [Bd.returns] at h; cases h)
  refine ⟨_, _, pre0 _ ?_, hrun, hended, _, _, rfl, ?_, ⟨_, rfl⟩, hW, hsame.mono (by decide) (by decide)⟩
  · show Steps p.tables e below (s₁.setTop (mkF m 0 #[.val (.ref t), .val (.int 46), .val (.int 0), .val (.int 8), .unset, .unset] [])) _
    refine XS.iloadN X0.here hx rfl (hb hby d18_0) rfl ?_
    show Steps p.tables e below (s₁.setTop (mkF m 1 #[.val (.ref t), .val (.int 46), .val (.int 0), .val (.int 8), .unset, .unset] [(.int 46)])) _
    refine XS.i2b X0.here hx rfl (hb hby d18_1) rfl ?_
    rw [show ((46 : Int32).toInt8.toInt32) = (46 : Int32) from by decide]
    show Steps p.tables e below (s₁.setTop (mkF m 2 #[.val (.ref t), .val (.int 46), .val (.int 0), .val (.int 8), .unset, .unset] [(.int 46)])) _
    refine XS.istore X0.here hx rfl (hb hby d18_2) rfl (l' := #[.val (.ref t), .val (.int 46), .val (.int 0), .val (.int 8), .val (.int 46), .unset]) rfl ?_
    refine XS.iloadN X0.here hx rfl (hb hby d18_4) rfl ?_
    refine XS.istore X0.here hx rfl (hb hby d18_5) rfl (l' := #[.val (.ref t), .val (.int 46), .val (.int 0), .val (.int 8), .val (.int 46), .val (.int 0)]) rfl ?_
    show Steps p.tables e below (s₁.setTop (mkF m 7 #[.val (.ref t), .val (.int 46), .val (.int 0), .val (.int 8), .val (.int 46), .val (.int 0)] [])) _
    refine XS.iload X0.here hx rfl (hb hby d18_7) rfl ?_
    refine XS.iloadN X0.here hx rfl (hb hby d18_9) rfl ?_
    refine XS.icmpNo X0.here hx rfl (hb hby d18_10) rfl (tlt (by decide : (0 : Int32) < (8 : Int32))).2.1 ?_
    show Steps p.tables e below (s₁.setTop (mkF m 13 #[.val (.ref t), .val (.int 46), .val (.int 0), .val (.int 8), .val (.int 46), .val (.int 0)] [])) _
    refine XS.aloadN X0.here hx rfl (hb hby d18_13) rfl rfl ?_
    refine XS.iload X0.here hx rfl (hb hby d18_14) rfl ?_
    show Steps p.tables e below (s₁.setTop (mkF m 16 #[.val (.ref t), .val (.int 46), .val (.int 0), .val (.int 8), .val (.int 46), .val (.int 0)] [(.int 0), (.ref t)])) _
    refine X0.baloadBytes hx (j := (0 : Int32)) (v := (.int b0)) (by rw [e0]; exact Ar_t_22.1) (State.isArrayOf_alike hZ.alike Ar_t_22.2.1) Ar_t_22.2.2 hint_22 hatt_22 (g := (mkF m 16 #[.val (.ref t), .val (.int 46), .val (.int 0), .val (.int 8), .val (.int 46), .val (.int 0)] [(.int 0), (.ref t)])) rfl rfl (hb hby d18_16) _ ?_
    show Steps p.tables e below (s₁.setTop (mkF m 17 #[.val (.ref t), .val (.int 46), .val (.int 0), .val (.int 8), .val (.int 46), .val (.int 0)] [(.int b0)])) _
    refine XS.iload X0.here hx rfl (hb hby d18_17) rfl ?_
    refine XS.icmpYes X0.here hx rfl (pc0 := 19) (pc' := 25) rfl (hb hby d18_19) rfl (feq hn0).2 (by decide) (by decide) ?_
    refine XS.iinc X0.here hx rfl (hb hby d18_25) rfl (l' := #[.val (.ref t), .val (.int 46), .val (.int 0), .val (.int 8), .val (.int 46), .val (.int 1)]) rfl ?_
    show Steps p.tables e below (s₁.setTop (mkF m 28 #[.val (.ref t), .val (.int 46), .val (.int 0), .val (.int 8), .val (.int 46), .val (.int 1)] [])) _
    refine XS.goto X0.here hx rfl (pc0 := 28) (pc' := 7) rfl (hb hby d18_28) (by decide) (by decide) ?_
    refine XS.iload X0.here hx rfl (hb hby d18_7) rfl ?_
    refine XS.iloadN X0.here hx rfl (hb hby d18_9) rfl ?_
    show Steps p.tables e below (s₁.setTop (mkF m 10 #[.val (.ref t), .val (.int 46), .val (.int 0), .val (.int 8), .val (.int 46), .val (.int 1)] [(.int 8), (.int 1)])) _
    refine XS.icmpNo X0.here hx rfl (hb hby d18_10) rfl (tlt (by decide : (1 : Int32) < (8 : Int32))).2.1 ?_
    refine XS.aloadN X0.here hx rfl (hb hby d18_13) rfl rfl ?_
    refine XS.iload X0.here hx rfl (hb hby d18_14) rfl ?_
    show Steps p.tables e below (s₁.setTop (mkF m 16 #[.val (.ref t), .val (.int 46), .val (.int 0), .val (.int 8), .val (.int 46), .val (.int 1)] [(.int 1), (.ref t)])) _
    refine X0.baloadBytes hx (j := (1 : Int32)) (v := (.int b1)) (by rw [e0]; exact Ar_t_42.1) (State.isArrayOf_alike hZ.alike Ar_t_42.2.1) Ar_t_42.2.2 hint_42 hatt_42 (g := (mkF m 16 #[.val (.ref t), .val (.int 46), .val (.int 0), .val (.int 8), .val (.int 46), .val (.int 1)] [(.int 1), (.ref t)])) rfl rfl (hb hby d18_16) _ ?_
    show Steps p.tables e below (s₁.setTop (mkF m 17 #[.val (.ref t), .val (.int 46), .val (.int 0), .val (.int 8), .val (.int 46), .val (.int 1)] [(.int b1)])) _
    refine XS.iload X0.here hx rfl (hb hby d18_17) rfl ?_
    refine XS.icmpYes X0.here hx rfl (pc0 := 19) (pc' := 25) rfl (hb hby d18_19) rfl (feq hn1).2 (by decide) (by decide) ?_
    refine XS.iinc X0.here hx rfl (hb hby d18_25) rfl (l' := #[.val (.ref t), .val (.int 46), .val (.int 0), .val (.int 8), .val (.int 46), .val (.int 2)]) rfl ?_
    show Steps p.tables e below (s₁.setTop (mkF m 28 #[.val (.ref t), .val (.int 46), .val (.int 0), .val (.int 8), .val (.int 46), .val (.int 2)] [])) _
    refine XS.goto X0.here hx rfl (pc0 := 28) (pc' := 7) rfl (hb hby d18_28) (by decide) (by decide) ?_
    refine XS.iload X0.here hx rfl (hb hby d18_7) rfl ?_
    refine XS.iloadN X0.here hx rfl (hb hby d18_9) rfl ?_
    show Steps p.tables e below (s₁.setTop (mkF m 10 #[.val (.ref t), .val (.int 46), .val (.int 0), .val (.int 8), .val (.int 46), .val (.int 2)] [(.int 8), (.int 2)])) _
    refine XS.icmpNo X0.here hx rfl (hb hby d18_10) rfl (tlt (by decide : (2 : Int32) < (8 : Int32))).2.1 ?_
    refine XS.aloadN X0.here hx rfl (hb hby d18_13) rfl rfl ?_
    refine XS.iload X0.here hx rfl (hb hby d18_14) rfl ?_
    show Steps p.tables e below (s₁.setTop (mkF m 16 #[.val (.ref t), .val (.int 46), .val (.int 0), .val (.int 8), .val (.int 46), .val (.int 2)] [(.int 2), (.ref t)])) _
    refine X0.baloadBytes hx (j := (2 : Int32)) (v := (.int b2)) (by rw [e0]; exact Ar_t_62.1) (State.isArrayOf_alike hZ.alike Ar_t_62.2.1) Ar_t_62.2.2 hint_62 hatt_62 (g := (mkF m 16 #[.val (.ref t), .val (.int 46), .val (.int 0), .val (.int 8), .val (.int 46), .val (.int 2)] [(.int 2), (.ref t)])) rfl rfl (hb hby d18_16) _ ?_
    show Steps p.tables e below (s₁.setTop (mkF m 17 #[.val (.ref t), .val (.int 46), .val (.int 0), .val (.int 8), .val (.int 46), .val (.int 2)] [(.int b2)])) _
    refine XS.iload X0.here hx rfl (hb hby d18_17) rfl ?_
    refine XS.icmpYes X0.here hx rfl (pc0 := 19) (pc' := 25) rfl (hb hby d18_19) rfl (feq hn2).2 (by decide) (by decide) ?_
    refine XS.iinc X0.here hx rfl (hb hby d18_25) rfl (l' := #[.val (.ref t), .val (.int 46), .val (.int 0), .val (.int 8), .val (.int 46), .val (.int 3)]) rfl ?_
    show Steps p.tables e below (s₁.setTop (mkF m 28 #[.val (.ref t), .val (.int 46), .val (.int 0), .val (.int 8), .val (.int 46), .val (.int 3)] [])) _
    refine XS.goto X0.here hx rfl (pc0 := 28) (pc' := 7) rfl (hb hby d18_28) (by decide) (by decide) ?_
    refine XS.iload X0.here hx rfl (hb hby d18_7) rfl ?_
    refine XS.iloadN X0.here hx rfl (hb hby d18_9) rfl ?_
    show Steps p.tables e below (s₁.setTop (mkF m 10 #[.val (.ref t), .val (.int 46), .val (.int 0), .val (.int 8), .val (.int 46), .val (.int 3)] [(.int 8), (.int 3)])) _
    refine XS.icmpNo X0.here hx rfl (hb hby d18_10) rfl (tlt (by decide : (3 : Int32) < (8 : Int32))).2.1 ?_
    refine XS.aloadN X0.here hx rfl (hb hby d18_13) rfl rfl ?_
    refine XS.iload X0.here hx rfl (hb hby d18_14) rfl ?_
    show Steps p.tables e below (s₁.setTop (mkF m 16 #[.val (.ref t), .val (.int 46), .val (.int 0), .val (.int 8), .val (.int 46), .val (.int 3)] [(.int 3), (.ref t)])) _
    refine X0.baloadBytes hx (j := (3 : Int32)) (v := (.int 46)) (by rw [e0]; exact Ar_t_82.1) (State.isArrayOf_alike hZ.alike Ar_t_82.2.1) Ar_t_82.2.2 hint_82 hatt_82 (g := (mkF m 16 #[.val (.ref t), .val (.int 46), .val (.int 0), .val (.int 8), .val (.int 46), .val (.int 3)] [(.int 3), (.ref t)])) rfl rfl (hb hby d18_16) _ ?_
    show Steps p.tables e below (s₁.setTop (mkF m 17 #[.val (.ref t), .val (.int 46), .val (.int 0), .val (.int 8), .val (.int 46), .val (.int 3)] [(.int 46)])) _
    refine XS.iload X0.here hx rfl (hb hby d18_17) rfl ?_
    refine XS.icmpNo X0.here hx rfl (hb hby d18_19) rfl (teq (by decide : (46 : Int32) = (46 : Int32))).2 ?_
    refine XS.iload X0.here hx rfl (hb hby d18_22) rfl ?_
    show Steps p.tables e below (s₁.setTop (mkF m 24 #[.val (.ref t), .val (.int 46), .val (.int 0), .val (.int 8), .val (.int 46), .val (.int 3)] [(.int 3)])) _
    exact retI X0 hx Bd.returns (hb hby d18_24) hr
  · show QP (.int (3 : Int32)) h0 n0 _ s₁.heap _
    rw [e0]
    exact ⟨rfl, N0, rfl⟩
set_option maxRecDepth 65536 in
set_option maxHeartbeats 40000000 in
theorem rmIC_4 (l : Launch) (Z : State) (a0 : Array Value) (hw : ∀ d ∈ tables_1, d.before a0 Z = true) (ws : List Jvm.Cond) (t : Addr) (kb : ClassId) (b0 b1 b2 b3 b4 b5 b6 b7 : Int32) (h0 : Heap) (n0 : Nat) (O0 : Old Z n0 h0) (K : Arv Z h0 t kb .byte (8 : Int32) [(.int b0), (.int b1), (.int b2), (.int b3), (.int 46), (.int b5), (.int b6), (.int b7)] (.int (0 : Int32))) (hn0 : ¬ (b0 = (46 : Int32))) (hn1 : ¬ (b1 = (46 : Int32))) (hn2 : ¬ (b2 = (46 : Int32))) (hn3 : ¬ (b3 = (46 : Int32))) :
    MetFree l y18 (head1 (Jvm.Cond.code y18 jdk_43_method_23_code 6 (some .int) :: ws) ({ frames := 0, cells := 0, slots := 0, locals := 0 } : Room)) (fun a_ U => a_ = #[(.ref t), (.int 46), (.int 0), (.int 8)] ∧ Z.Warmed39 U.vm ∧ U.heap = h0) (fun _ _ _ _ _ => True) (fun _ U o U' => ∃ v L, o = .returned v ∧ QP (.int (4 : Int32)) h0 n0 v U'.heap L ∧ FrameEnd U o U' L 0 0) := by
  refine MetFree.of_bodySF (plainFor_of_name pn_1) hisR ?_
  intro p e s m args below meth c s₁ Bd hml0 hP hK
  obtain ⟨rfl, hZ, hh⟩ := hP
  have hx := Bd.exec
  have hby := Bd.bytes
  have hml : c.maxLocals = 6 := hml0
  have hown : s.vm.findClass "java/lang/StringLatin1" = some m.cls := findClass_of_methodNamed Bd.named
  have hnm := (name_of_methodNamed Bd.named Bd.method).1
  have X0 : Stand p l e ({ frames := 0, cells := 0, slots := 0, locals := 0 } : Room) s m #[(.ref t), (.int 46), (.int 0), (.int 8)] below meth c s₁ [] 0 0 := Stand.of_body Bd
  have e0 : s₁.heap = h0 := by rw [← hh, Bd.state]; rfl
  have N0 := Fr.nil n0
  have pre0 : ∀ tg, Steps p.tables e below (s₁.setTop (mkF m 0 #[.val (.ref t), .val (.int 46), .val (.int 0), .val (.int 8), .unset, .unset] [])) tg → Steps p.tables e below (s₁.setTop (entryFrame m #[(.ref t), (.int 46), (.int 0), (.int 8)] 6)) tg := fun tg kq => castTop (ef_RIII_6 m t (46 : Int32) (0 : Int32) (8 : Int32)) kq
  obtain ⟨cl_t_22, Ar_t_22, q_t_22, S_t_22, N_t_22, H_t_22, G_t_22⟩ := id (K)
  have hint_22 : ¬ ((0 : Int32) < 0 ∨ cl_t_22.slots.size ≤ ((0 : Int32)).toNatClampNeg) := inb_of S_t_22 ⟨by decide, by decide⟩
  have hatt_22 : cl_t_22.slots[((0 : Int32)).toNatClampNeg]? = some (.int b0) := H_t_22.at hint_22 rfl
  obtain ⟨cl_t_42, Ar_t_42, q_t_42, S_t_42, N_t_42, H_t_42, G_t_42⟩ := id (K)
  have hint_42 : ¬ ((1 : Int32) < 0 ∨ cl_t_42.slots.size ≤ ((1 : Int32)).toNatClampNeg) := inb_of S_t_42 ⟨by decide, by decide⟩
  have hatt_42 : cl_t_42.slots[((1 : Int32)).toNatClampNeg]? = some (.int b1) := H_t_42.at hint_42 rfl
  obtain ⟨cl_t_62, Ar_t_62, q_t_62, S_t_62, N_t_62, H_t_62, G_t_62⟩ := id (K)
  have hint_62 : ¬ ((2 : Int32) < 0 ∨ cl_t_62.slots.size ≤ ((2 : Int32)).toNatClampNeg) := inb_of S_t_62 ⟨by decide, by decide⟩
  have hatt_62 : cl_t_62.slots[((2 : Int32)).toNatClampNeg]? = some (.int b2) := H_t_62.at hint_62 rfl
  obtain ⟨cl_t_82, Ar_t_82, q_t_82, S_t_82, N_t_82, H_t_82, G_t_82⟩ := id (K)
  have hint_82 : ¬ ((3 : Int32) < 0 ∨ cl_t_82.slots.size ≤ ((3 : Int32)).toNatClampNeg) := inb_of S_t_82 ⟨by decide, by decide⟩
  have hatt_82 : cl_t_82.slots[((3 : Int32)).toNatClampNeg]? = some (.int b3) := H_t_82.at hint_82 rfl
  obtain ⟨cl_t_102, Ar_t_102, q_t_102, S_t_102, N_t_102, H_t_102, G_t_102⟩ := id (K)
  have hint_102 : ¬ ((4 : Int32) < 0 ∨ cl_t_102.slots.size ≤ ((4 : Int32)).toNatClampNeg) := inb_of S_t_102 ⟨by decide, by decide⟩
  have hatt_102 : cl_t_102.slots[((4 : Int32)).toNatClampNeg]? = some (.int 46) := H_t_102.at hint_102 rfl
  obtain ⟨fs, hr, hrun, hended, hW, hsame⟩ := X0.leave (v := some (.int 4)) (fun h => by rw [Bd.returns] at h; cases h)
  refine ⟨_, _, pre0 _ ?_, hrun, hended, _, _, rfl, ?_, ⟨_, rfl⟩, hW, hsame.mono (by decide) (by decide)⟩
  · show Steps p.tables e below (s₁.setTop (mkF m 0 #[.val (.ref t), .val (.int 46), .val (.int 0), .val (.int 8), .unset, .unset] [])) _
    refine XS.iloadN X0.here hx rfl (hb hby d18_0) rfl ?_
    show Steps p.tables e below (s₁.setTop (mkF m 1 #[.val (.ref t), .val (.int 46), .val (.int 0), .val (.int 8), .unset, .unset] [(.int 46)])) _
    refine XS.i2b X0.here hx rfl (hb hby d18_1) rfl ?_
    rw [show ((46 : Int32).toInt8.toInt32) = (46 : Int32) from by decide]
    show Steps p.tables e below (s₁.setTop (mkF m 2 #[.val (.ref t), .val (.int 46), .val (.int 0), .val (.int 8), .unset, .unset] [(.int 46)])) _
    refine XS.istore X0.here hx rfl (hb hby d18_2) rfl (l' := #[.val (.ref t), .val (.int 46), .val (.int 0), .val (.int 8), .val (.int 46), .unset]) rfl ?_
    refine XS.iloadN X0.here hx rfl (hb hby d18_4) rfl ?_
    refine XS.istore X0.here hx rfl (hb hby d18_5) rfl (l' := #[.val (.ref t), .val (.int 46), .val (.int 0), .val (.int 8), .val (.int 46), .val (.int 0)]) rfl ?_
    show Steps p.tables e below (s₁.setTop (mkF m 7 #[.val (.ref t), .val (.int 46), .val (.int 0), .val (.int 8), .val (.int 46), .val (.int 0)] [])) _
    refine XS.iload X0.here hx rfl (hb hby d18_7) rfl ?_
    refine XS.iloadN X0.here hx rfl (hb hby d18_9) rfl ?_
    refine XS.icmpNo X0.here hx rfl (hb hby d18_10) rfl (tlt (by decide : (0 : Int32) < (8 : Int32))).2.1 ?_
    show Steps p.tables e below (s₁.setTop (mkF m 13 #[.val (.ref t), .val (.int 46), .val (.int 0), .val (.int 8), .val (.int 46), .val (.int 0)] [])) _
    refine XS.aloadN X0.here hx rfl (hb hby d18_13) rfl rfl ?_
    refine XS.iload X0.here hx rfl (hb hby d18_14) rfl ?_
    show Steps p.tables e below (s₁.setTop (mkF m 16 #[.val (.ref t), .val (.int 46), .val (.int 0), .val (.int 8), .val (.int 46), .val (.int 0)] [(.int 0), (.ref t)])) _
    refine X0.baloadBytes hx (j := (0 : Int32)) (v := (.int b0)) (by rw [e0]; exact Ar_t_22.1) (State.isArrayOf_alike hZ.alike Ar_t_22.2.1) Ar_t_22.2.2 hint_22 hatt_22 (g := (mkF m 16 #[.val (.ref t), .val (.int 46), .val (.int 0), .val (.int 8), .val (.int 46), .val (.int 0)] [(.int 0), (.ref t)])) rfl rfl (hb hby d18_16) _ ?_
    show Steps p.tables e below (s₁.setTop (mkF m 17 #[.val (.ref t), .val (.int 46), .val (.int 0), .val (.int 8), .val (.int 46), .val (.int 0)] [(.int b0)])) _
    refine XS.iload X0.here hx rfl (hb hby d18_17) rfl ?_
    refine XS.icmpYes X0.here hx rfl (pc0 := 19) (pc' := 25) rfl (hb hby d18_19) rfl (feq hn0).2 (by decide) (by decide) ?_
    refine XS.iinc X0.here hx rfl (hb hby d18_25) rfl (l' := #[.val (.ref t), .val (.int 46), .val (.int 0), .val (.int 8), .val (.int 46), .val (.int 1)]) rfl ?_
    show Steps p.tables e below (s₁.setTop (mkF m 28 #[.val (.ref t), .val (.int 46), .val (.int 0), .val (.int 8), .val (.int 46), .val (.int 1)] [])) _
    refine XS.goto X0.here hx rfl (pc0 := 28) (pc' := 7) rfl (hb hby d18_28) (by decide) (by decide) ?_
    refine XS.iload X0.here hx rfl (hb hby d18_7) rfl ?_
    refine XS.iloadN X0.here hx rfl (hb hby d18_9) rfl ?_
    show Steps p.tables e below (s₁.setTop (mkF m 10 #[.val (.ref t), .val (.int 46), .val (.int 0), .val (.int 8), .val (.int 46), .val (.int 1)] [(.int 8), (.int 1)])) _
    refine XS.icmpNo X0.here hx rfl (hb hby d18_10) rfl (tlt (by decide : (1 : Int32) < (8 : Int32))).2.1 ?_
    refine XS.aloadN X0.here hx rfl (hb hby d18_13) rfl rfl ?_
    refine XS.iload X0.here hx rfl (hb hby d18_14) rfl ?_
    show Steps p.tables e below (s₁.setTop (mkF m 16 #[.val (.ref t), .val (.int 46), .val (.int 0), .val (.int 8), .val (.int 46), .val (.int 1)] [(.int 1), (.ref t)])) _
    refine X0.baloadBytes hx (j := (1 : Int32)) (v := (.int b1)) (by rw [e0]; exact Ar_t_42.1) (State.isArrayOf_alike hZ.alike Ar_t_42.2.1) Ar_t_42.2.2 hint_42 hatt_42 (g := (mkF m 16 #[.val (.ref t), .val (.int 46), .val (.int 0), .val (.int 8), .val (.int 46), .val (.int 1)] [(.int 1), (.ref t)])) rfl rfl (hb hby d18_16) _ ?_
    show Steps p.tables e below (s₁.setTop (mkF m 17 #[.val (.ref t), .val (.int 46), .val (.int 0), .val (.int 8), .val (.int 46), .val (.int 1)] [(.int b1)])) _
    refine XS.iload X0.here hx rfl (hb hby d18_17) rfl ?_
    refine XS.icmpYes X0.here hx rfl (pc0 := 19) (pc' := 25) rfl (hb hby d18_19) rfl (feq hn1).2 (by decide) (by decide) ?_
    refine XS.iinc X0.here hx rfl (hb hby d18_25) rfl (l' := #[.val (.ref t), .val (.int 46), .val (.int 0), .val (.int 8), .val (.int 46), .val (.int 2)]) rfl ?_
    show Steps p.tables e below (s₁.setTop (mkF m 28 #[.val (.ref t), .val (.int 46), .val (.int 0), .val (.int 8), .val (.int 46), .val (.int 2)] [])) _
    refine XS.goto X0.here hx rfl (pc0 := 28) (pc' := 7) rfl (hb hby d18_28) (by decide) (by decide) ?_
    refine XS.iload X0.here hx rfl (hb hby d18_7) rfl ?_
    refine XS.iloadN X0.here hx rfl (hb hby d18_9) rfl ?_
    show Steps p.tables e below (s₁.setTop (mkF m 10 #[.val (.ref t), .val (.int 46), .val (.int 0), .val (.int 8), .val (.int 46), .val (.int 2)] [(.int 8), (.int 2)])) _
    refine XS.icmpNo X0.here hx rfl (hb hby d18_10) rfl (tlt (by decide : (2 : Int32) < (8 : Int32))).2.1 ?_
    refine XS.aloadN X0.here hx rfl (hb hby d18_13) rfl rfl ?_
    refine XS.iload X0.here hx rfl (hb hby d18_14) rfl ?_
    show Steps p.tables e below (s₁.setTop (mkF m 16 #[.val (.ref t), .val (.int 46), .val (.int 0), .val (.int 8), .val (.int 46), .val (.int 2)] [(.int 2), (.ref t)])) _
    refine X0.baloadBytes hx (j := (2 : Int32)) (v := (.int b2)) (by rw [e0]; exact Ar_t_62.1) (State.isArrayOf_alike hZ.alike Ar_t_62.2.1) Ar_t_62.2.2 hint_62 hatt_62 (g := (mkF m 16 #[.val (.ref t), .val (.int 46), .val (.int 0), .val (.int 8), .val (.int 46), .val (.int 2)] [(.int 2), (.ref t)])) rfl rfl (hb hby d18_16) _ ?_
    show Steps p.tables e below (s₁.setTop (mkF m 17 #[.val (.ref t), .val (.int 46), .val (.int 0), .val (.int 8), .val (.int 46), .val (.int 2)] [(.int b2)])) _
    refine XS.iload X0.here hx rfl (hb hby d18_17) rfl ?_
    refine XS.icmpYes X0.here hx rfl (pc0 := 19) (pc' := 25) rfl (hb hby d18_19) rfl (feq hn2).2 (by decide) (by decide) ?_
    refine XS.iinc X0.here hx rfl (hb hby d18_25) rfl (l' := #[.val (.ref t), .val (.int 46), .val (.int 0), .val (.int 8), .val (.int 46), .val (.int 3)]) rfl ?_
    show Steps p.tables e below (s₁.setTop (mkF m 28 #[.val (.ref t), .val (.int 46), .val (.int 0), .val (.int 8), .val (.int 46), .val (.int 3)] [])) _
    refine XS.goto X0.here hx rfl (pc0 := 28) (pc' := 7) rfl (hb hby d18_28) (by decide) (by decide) ?_
    refine XS.iload X0.here hx rfl (hb hby d18_7) rfl ?_
    refine XS.iloadN X0.here hx rfl (hb hby d18_9) rfl ?_
    show Steps p.tables e below (s₁.setTop (mkF m 10 #[.val (.ref t), .val (.int 46), .val (.int 0), .val (.int 8), .val (.int 46), .val (.int 3)] [(.int 8), (.int 3)])) _
    refine XS.icmpNo X0.here hx rfl (hb hby d18_10) rfl (tlt (by decide : (3 : Int32) < (8 : Int32))).2.1 ?_
    refine XS.aloadN X0.here hx rfl (hb hby d18_13) rfl rfl ?_
    refine XS.iload X0.here hx rfl (hb hby d18_14) rfl ?_
    show Steps p.tables e below (s₁.setTop (mkF m 16 #[.val (.ref t), .val (.int 46), .val (.int 0), .val (.int 8), .val (.int 46), .val (.int 3)] [(.int 3), (.ref t)])) _
    refine X0.baloadBytes hx (j := (3 : Int32)) (v := (.int b3)) (by rw [e0]; exact Ar_t_82.1) (State.isArrayOf_alike hZ.alike Ar_t_82.2.1) Ar_t_82.2.2 hint_82 hatt_82 (g := (mkF m 16 #[.val (.ref t), .val (.int 46), .val (.int 0), .val (.int 8), .val (.int 46), .val (.int 3)] [(.int 3), (.ref t)])) rfl rfl (hb hby d18_16) _ ?_
    show Steps p.tables e below (s₁.setTop (mkF m 17 #[.val (.ref t), .val (.int 46), .val (.int 0), .val (.int 8), .val (.int 46), .val (.int 3)] [(.int b3)])) _
    refine XS.iload X0.here hx rfl (hb hby d18_17) rfl ?_
    refine XS.icmpYes X0.here hx rfl (pc0 := 19) (pc' := 25) rfl (hb hby d18_19) rfl (feq hn3).2 (by decide) (by decide) ?_
    refine XS.iinc X0.here hx rfl (hb hby d18_25) rfl (l' := #[.val (.ref t), .val (.int 46), .val (.int 0), .val (.int 8), .val (.int 46), .val (.int 4)]) rfl ?_
    show Steps p.tables e below (s₁.setTop (mkF m 28 #[.val (.ref t), .val (.int 46), .val (.int 0), .val (.int 8), .val (.int 46), .val (.int 4)] [])) _
    refine XS.goto X0.here hx rfl (pc0 := 28) (pc' := 7) rfl (hb hby d18_28) (by decide) (by decide) ?_
    refine XS.iload X0.here hx rfl (hb hby d18_7) rfl ?_
    refine XS.iloadN X0.here hx rfl (hb hby d18_9) rfl ?_
    show Steps p.tables e below (s₁.setTop (mkF m 10 #[.val (.ref t), .val (.int 46), .val (.int 0), .val (.int 8), .val (.int 46), .val (.int 4)] [(.int 8), (.int 4)])) _
    refine XS.icmpNo X0.here hx rfl (hb hby d18_10) rfl (tlt (by decide : (4 : Int32) < (8 : Int32))).2.1 ?_
    refine XS.aloadN X0.here hx rfl (hb hby d18_13) rfl rfl ?_
    refine XS.iload X0.here hx rfl (hb hby d18_14) rfl ?_
    show Steps p.tables e below (s₁.setTop (mkF m 16 #[.val (.ref t), .val (.int 46), .val (.int 0), .val (.int 8), .val (.int 46), .val (.int 4)] [(.int 4), (.ref t)])) _
    refine X0.baloadBytes hx (j := (4 : Int32)) (v := (.int 46)) (by rw [e0]; exact Ar_t_102.1) (State.isArrayOf_alike hZ.alike Ar_t_102.2.1) Ar_t_102.2.2 hint_102 hatt_102 (g := (mkF m 16 #[.val (.ref t), .val (.int 46), .val (.int 0), .val (.int 8), .val (.int 46), .val (.int 4)] [(.int 4), (.ref t)])) rfl rfl (hb hby d18_16) _ ?_
    show Steps p.tables e below (s₁.setTop (mkF m 17 #[.val (.ref t), .val (.int 46), .val (.int 0), .val (.int 8), .val (.int 46), .val (.int 4)] [(.int 46)])) _
    refine XS.iload X0.here hx rfl (hb hby d18_17) rfl ?_
    refine XS.icmpNo X0.here hx rfl (hb hby d18_19) rfl (teq (by decide : (46 : Int32) = (46 : Int32))).2 ?_
    refine XS.iload X0.here hx rfl (hb hby d18_22) rfl ?_
    show Steps p.tables e below (s₁.setTop (mkF m 24 #[.val (.ref t), .val (.int 46), .val (.int 0), .val (.int 8), .val (.int 46), .val (.int 4)] [(.int 4)])) _
    exact retI X0 hx Bd.returns (hb hby d18_24) hr
  · show QP (.int (4 : Int32)) h0 n0 _ s₁.heap _
    rw [e0]
    exact ⟨rfl, N0, rfl⟩
set_option maxRecDepth 65536 in
set_option maxHeartbeats 40000000 in
theorem rmIC_5 (l : Launch) (Z : State) (a0 : Array Value) (hw : ∀ d ∈ tables_1, d.before a0 Z = true) (ws : List Jvm.Cond) (t : Addr) (kb : ClassId) (b0 b1 b2 b3 b4 b5 b6 b7 : Int32) (h0 : Heap) (n0 : Nat) (O0 : Old Z n0 h0) (K : Arv Z h0 t kb .byte (8 : Int32) [(.int b0), (.int b1), (.int b2), (.int b3), (.int b4), (.int 46), (.int b6), (.int b7)] (.int (0 : Int32))) (hn0 : ¬ (b0 = (46 : Int32))) (hn1 : ¬ (b1 = (46 : Int32))) (hn2 : ¬ (b2 = (46 : Int32))) (hn3 : ¬ (b3 = (46 : Int32))) (hn4 : ¬ (b4 = (46 : Int32))) :
    MetFree l y18 (head1 (Jvm.Cond.code y18 jdk_43_method_23_code 6 (some .int) :: ws) ({ frames := 0, cells := 0, slots := 0, locals := 0 } : Room)) (fun a_ U => a_ = #[(.ref t), (.int 46), (.int 0), (.int 8)] ∧ Z.Warmed39 U.vm ∧ U.heap = h0) (fun _ _ _ _ _ => True) (fun _ U o U' => ∃ v L, o = .returned v ∧ QP (.int (5 : Int32)) h0 n0 v U'.heap L ∧ FrameEnd U o U' L 0 0) := by
  refine MetFree.of_bodySF (plainFor_of_name pn_1) hisR ?_
  intro p e s m args below meth c s₁ Bd hml0 hP hK
  obtain ⟨rfl, hZ, hh⟩ := hP
  have hx := Bd.exec
  have hby := Bd.bytes
  have hml : c.maxLocals = 6 := hml0
  have hown : s.vm.findClass "java/lang/StringLatin1" = some m.cls := findClass_of_methodNamed Bd.named
  have hnm := (name_of_methodNamed Bd.named Bd.method).1
  have X0 : Stand p l e ({ frames := 0, cells := 0, slots := 0, locals := 0 } : Room) s m #[(.ref t), (.int 46), (.int 0), (.int 8)] below meth c s₁ [] 0 0 := Stand.of_body Bd
  have e0 : s₁.heap = h0 := by rw [← hh, Bd.state]; rfl
  have N0 := Fr.nil n0
  have pre0 : ∀ tg, Steps p.tables e below (s₁.setTop (mkF m 0 #[.val (.ref t), .val (.int 46), .val (.int 0), .val (.int 8), .unset, .unset] [])) tg → Steps p.tables e below (s₁.setTop (entryFrame m #[(.ref t), (.int 46), (.int 0), (.int 8)] 6)) tg := fun tg kq => castTop (ef_RIII_6 m t (46 : Int32) (0 : Int32) (8 : Int32)) kq
  obtain ⟨cl_t_22, Ar_t_22, q_t_22, S_t_22, N_t_22, H_t_22, G_t_22⟩ := id (K)
  have hint_22 : ¬ ((0 : Int32) < 0 ∨ cl_t_22.slots.size ≤ ((0 : Int32)).toNatClampNeg) := inb_of S_t_22 ⟨by decide, by decide⟩
  have hatt_22 : cl_t_22.slots[((0 : Int32)).toNatClampNeg]? = some (.int b0) := H_t_22.at hint_22 rfl
  obtain ⟨cl_t_42, Ar_t_42, q_t_42, S_t_42, N_t_42, H_t_42, G_t_42⟩ := id (K)
  have hint_42 : ¬ ((1 : Int32) < 0 ∨ cl_t_42.slots.size ≤ ((1 : Int32)).toNatClampNeg) := inb_of S_t_42 ⟨by decide, by decide⟩
  have hatt_42 : cl_t_42.slots[((1 : Int32)).toNatClampNeg]? = some (.int b1) := H_t_42.at hint_42 rfl
  obtain ⟨cl_t_62, Ar_t_62, q_t_62, S_t_62, N_t_62, H_t_62, G_t_62⟩ := id (K)
  have hint_62 : ¬ ((2 : Int32) < 0 ∨ cl_t_62.slots.size ≤ ((2 : Int32)).toNatClampNeg) := inb_of S_t_62 ⟨by decide, by decide⟩
  have hatt_62 : cl_t_62.slots[((2 : Int32)).toNatClampNeg]? = some (.int b2) := H_t_62.at hint_62 rfl
  obtain ⟨cl_t_82, Ar_t_82, q_t_82, S_t_82, N_t_82, H_t_82, G_t_82⟩ := id (K)
  have hint_82 : ¬ ((3 : Int32) < 0 ∨ cl_t_82.slots.size ≤ ((3 : Int32)).toNatClampNeg) := inb_of S_t_82 ⟨by decide, by decide⟩
  have hatt_82 : cl_t_82.slots[((3 : Int32)).toNatClampNeg]? = some (.int b3) := H_t_82.at hint_82 rfl
  obtain ⟨cl_t_102, Ar_t_102, q_t_102, S_t_102, N_t_102, H_t_102, G_t_102⟩ := id (K)
  have hint_102 : ¬ ((4 : Int32) < 0 ∨ cl_t_102.slots.size ≤ ((4 : Int32)).toNatClampNeg) := inb_of S_t_102 ⟨by decide, by decide⟩
  have hatt_102 : cl_t_102.slots[((4 : Int32)).toNatClampNeg]? = some (.int b4) := H_t_102.at hint_102 rfl
  obtain ⟨cl_t_122, Ar_t_122, q_t_122, S_t_122, N_t_122, H_t_122, G_t_122⟩ := id (K)
  have hint_122 : ¬ ((5 : Int32) < 0 ∨ cl_t_122.slots.size ≤ ((5 : Int32)).toNatClampNeg) := inb_of S_t_122 ⟨by decide, by decide⟩
  have hatt_122 : cl_t_122.slots[((5 : Int32)).toNatClampNeg]? = some (.int 46) := H_t_122.at hint_122 rfl
  obtain ⟨fs, hr, hrun, hended, hW, hsame⟩ := X0.leave (v := some (.int 5)) (fun h => by rw [Bd.returns] at h; cases h)
  refine ⟨_, _, pre0 _ ?_, hrun, hended, _, _, rfl, ?_, ⟨_, rfl⟩, hW, hsame.mono (by decide) (by decide)⟩
  · show Steps p.tables e below (s₁.setTop (mkF m 0 #[.val (.ref t), .val (.int 46), .val (.int 0), .val (.int 8), .unset, .unset] [])) _
    refine XS.iloadN X0.here hx rfl (hb hby d18_0) rfl ?_
    show Steps p.tables e below (s₁.setTop (mkF m 1 #[.val (.ref t), .val (.int 46), .val (.int 0), .val (.int 8), .unset, .unset] [(.int 46)])) _
    refine XS.i2b X0.here hx rfl (hb hby d18_1) rfl ?_
    rw [show ((46 : Int32).toInt8.toInt32) = (46 : Int32) from by decide]
    show Steps p.tables e below (s₁.setTop (mkF m 2 #[.val (.ref t), .val (.int 46), .val (.int 0), .val (.int 8), .unset, .unset] [(.int 46)])) _
    refine XS.istore X0.here hx rfl (hb hby d18_2) rfl (l' := #[.val (.ref t), .val (.int 46), .val (.int 0), .val (.int 8), .val (.int 46), .unset]) rfl ?_
    refine XS.iloadN X0.here hx rfl (hb hby d18_4) rfl ?_
    refine XS.istore X0.here hx rfl (hb hby d18_5) rfl (l' := #[.val (.ref t), .val (.int 46), .val (.int 0), .val (.int 8), .val (.int 46), .val (.int 0)]) rfl ?_
    show Steps p.tables e below (s₁.setTop (mkF m 7 #[.val (.ref t), .val (.int 46), .val (.int 0), .val (.int 8), .val (.int 46), .val (.int 0)] [])) _
    refine XS.iload X0.here hx rfl (hb hby d18_7) rfl ?_
    refine XS.iloadN X0.here hx rfl (hb hby d18_9) rfl ?_
    refine XS.icmpNo X0.here hx rfl (hb hby d18_10) rfl (tlt (by decide : (0 : Int32) < (8 : Int32))).2.1 ?_
    show Steps p.tables e below (s₁.setTop (mkF m 13 #[.val (.ref t), .val (.int 46), .val (.int 0), .val (.int 8), .val (.int 46), .val (.int 0)] [])) _
    refine XS.aloadN X0.here hx rfl (hb hby d18_13) rfl rfl ?_
    refine XS.iload X0.here hx rfl (hb hby d18_14) rfl ?_
    show Steps p.tables e below (s₁.setTop (mkF m 16 #[.val (.ref t), .val (.int 46), .val (.int 0), .val (.int 8), .val (.int 46), .val (.int 0)] [(.int 0), (.ref t)])) _
    refine X0.baloadBytes hx (j := (0 : Int32)) (v := (.int b0)) (by rw [e0]; exact Ar_t_22.1) (State.isArrayOf_alike hZ.alike Ar_t_22.2.1) Ar_t_22.2.2 hint_22 hatt_22 (g := (mkF m 16 #[.val (.ref t), .val (.int 46), .val (.int 0), .val (.int 8), .val (.int 46), .val (.int 0)] [(.int 0), (.ref t)])) rfl rfl (hb hby d18_16) _ ?_
    show Steps p.tables e below (s₁.setTop (mkF m 17 #[.val (.ref t), .val (.int 46), .val (.int 0), .val (.int 8), .val (.int 46), .val (.int 0)] [(.int b0)])) _
    refine XS.iload X0.here hx rfl (hb hby d18_17) rfl ?_
    refine XS.icmpYes X0.here hx rfl (pc0 := 19) (pc' := 25) rfl (hb hby d18_19) rfl (feq hn0).2 (by decide) (by decide) ?_
    refine XS.iinc X0.here hx rfl (hb hby d18_25) rfl (l' := #[.val (.ref t), .val (.int 46), .val (.int 0), .val (.int 8), .val (.int 46), .val (.int 1)]) rfl ?_
    show Steps p.tables e below (s₁.setTop (mkF m 28 #[.val (.ref t), .val (.int 46), .val (.int 0), .val (.int 8), .val (.int 46), .val (.int 1)] [])) _
    refine XS.goto X0.here hx rfl (pc0 := 28) (pc' := 7) rfl (hb hby d18_28) (by decide) (by decide) ?_
    refine XS.iload X0.here hx rfl (hb hby d18_7) rfl ?_
    refine XS.iloadN X0.here hx rfl (hb hby d18_9) rfl ?_
    show Steps p.tables e below (s₁.setTop (mkF m 10 #[.val (.ref t), .val (.int 46), .val (.int 0), .val (.int 8), .val (.int 46), .val (.int 1)] [(.int 8), (.int 1)])) _
    refine XS.icmpNo X0.here hx rfl (hb hby d18_10) rfl (tlt (by decide : (1 : Int32) < (8 : Int32))).2.1 ?_
    refine XS.aloadN X0.here hx rfl (hb hby d18_13) rfl rfl ?_
    refine XS.iload X0.here hx rfl (hb hby d18_14) rfl ?_
    show Steps p.tables e below (s₁.setTop (mkF m 16 #[.val (.ref t), .val (.int 46), .val (.int 0), .val (.int 8), .val (.int 46), .val (.int 1)] [(.int 1), (.ref t)])) _
    refine X0.baloadBytes hx (j := (1 : Int32)) (v := (.int b1)) (by rw [e0]; exact Ar_t_42.1) (State.isArrayOf_alike hZ.alike Ar_t_42.2.1) Ar_t_42.2.2 hint_42 hatt_42 (g := (mkF m 16 #[.val (.ref t), .val (.int 46), .val (.int 0), .val (.int 8), .val (.int 46), .val (.int 1)] [(.int 1), (.ref t)])) rfl rfl (hb hby d18_16) _ ?_
    show Steps p.tables e below (s₁.setTop (mkF m 17 #[.val (.ref t), .val (.int 46), .val (.int 0), .val (.int 8), .val (.int 46), .val (.int 1)] [(.int b1)])) _
    refine XS.iload X0.here hx rfl (hb hby d18_17) rfl ?_
    refine XS.icmpYes X0.here hx rfl (pc0 := 19) (pc' := 25) rfl (hb hby d18_19) rfl (feq hn1).2 (by decide) (by decide) ?_
    refine XS.iinc X0.here hx rfl (hb hby d18_25) rfl (l' := #[.val (.ref t), .val (.int 46), .val (.int 0), .val (.int 8), .val (.int 46), .val (.int 2)]) rfl ?_
    show Steps p.tables e below (s₁.setTop (mkF m 28 #[.val (.ref t), .val (.int 46), .val (.int 0), .val (.int 8), .val (.int 46), .val (.int 2)] [])) _
    refine XS.goto X0.here hx rfl (pc0 := 28) (pc' := 7) rfl (hb hby d18_28) (by decide) (by decide) ?_
    refine XS.iload X0.here hx rfl (hb hby d18_7) rfl ?_
    refine XS.iloadN X0.here hx rfl (hb hby d18_9) rfl ?_
    show Steps p.tables e below (s₁.setTop (mkF m 10 #[.val (.ref t), .val (.int 46), .val (.int 0), .val (.int 8), .val (.int 46), .val (.int 2)] [(.int 8), (.int 2)])) _
    refine XS.icmpNo X0.here hx rfl (hb hby d18_10) rfl (tlt (by decide : (2 : Int32) < (8 : Int32))).2.1 ?_
    refine XS.aloadN X0.here hx rfl (hb hby d18_13) rfl rfl ?_
    refine XS.iload X0.here hx rfl (hb hby d18_14) rfl ?_
    show Steps p.tables e below (s₁.setTop (mkF m 16 #[.val (.ref t), .val (.int 46), .val (.int 0), .val (.int 8), .val (.int 46), .val (.int 2)] [(.int 2), (.ref t)])) _
    refine X0.baloadBytes hx (j := (2 : Int32)) (v := (.int b2)) (by rw [e0]; exact Ar_t_62.1) (State.isArrayOf_alike hZ.alike Ar_t_62.2.1) Ar_t_62.2.2 hint_62 hatt_62 (g := (mkF m 16 #[.val (.ref t), .val (.int 46), .val (.int 0), .val (.int 8), .val (.int 46), .val (.int 2)] [(.int 2), (.ref t)])) rfl rfl (hb hby d18_16) _ ?_
    show Steps p.tables e below (s₁.setTop (mkF m 17 #[.val (.ref t), .val (.int 46), .val (.int 0), .val (.int 8), .val (.int 46), .val (.int 2)] [(.int b2)])) _
    refine XS.iload X0.here hx rfl (hb hby d18_17) rfl ?_
    refine XS.icmpYes X0.here hx rfl (pc0 := 19) (pc' := 25) rfl (hb hby d18_19) rfl (feq hn2).2 (by decide) (by decide) ?_
    refine XS.iinc X0.here hx rfl (hb hby d18_25) rfl (l' := #[.val (.ref t), .val (.int 46), .val (.int 0), .val (.int 8), .val (.int 46), .val (.int 3)]) rfl ?_
    show Steps p.tables e below (s₁.setTop (mkF m 28 #[.val (.ref t), .val (.int 46), .val (.int 0), .val (.int 8), .val (.int 46), .val (.int 3)] [])) _
    refine XS.goto X0.here hx rfl (pc0 := 28) (pc' := 7) rfl (hb hby d18_28) (by decide) (by decide) ?_
    refine XS.iload X0.here hx rfl (hb hby d18_7) rfl ?_
    refine XS.iloadN X0.here hx rfl (hb hby d18_9) rfl ?_
    show Steps p.tables e below (s₁.setTop (mkF m 10 #[.val (.ref t), .val (.int 46), .val (.int 0), .val (.int 8), .val (.int 46), .val (.int 3)] [(.int 8), (.int 3)])) _
    refine XS.icmpNo X0.here hx rfl (hb hby d18_10) rfl (tlt (by decide : (3 : Int32) < (8 : Int32))).2.1 ?_
    refine XS.aloadN X0.here hx rfl (hb hby d18_13) rfl rfl ?_
    refine XS.iload X0.here hx rfl (hb hby d18_14) rfl ?_
    show Steps p.tables e below (s₁.setTop (mkF m 16 #[.val (.ref t), .val (.int 46), .val (.int 0), .val (.int 8), .val (.int 46), .val (.int 3)] [(.int 3), (.ref t)])) _
    refine X0.baloadBytes hx (j := (3 : Int32)) (v := (.int b3)) (by rw [e0]; exact Ar_t_82.1) (State.isArrayOf_alike hZ.alike Ar_t_82.2.1) Ar_t_82.2.2 hint_82 hatt_82 (g := (mkF m 16 #[.val (.ref t), .val (.int 46), .val (.int 0), .val (.int 8), .val (.int 46), .val (.int 3)] [(.int 3), (.ref t)])) rfl rfl (hb hby d18_16) _ ?_
    show Steps p.tables e below (s₁.setTop (mkF m 17 #[.val (.ref t), .val (.int 46), .val (.int 0), .val (.int 8), .val (.int 46), .val (.int 3)] [(.int b3)])) _
    refine XS.iload X0.here hx rfl (hb hby d18_17) rfl ?_
    refine XS.icmpYes X0.here hx rfl (pc0 := 19) (pc' := 25) rfl (hb hby d18_19) rfl (feq hn3).2 (by decide) (by decide) ?_
    refine XS.iinc X0.here hx rfl (hb hby d18_25) rfl (l' := #[.val (.ref t), .val (.int 46), .val (.int 0), .val (.int 8), .val (.int 46), .val (.int 4)]) rfl ?_
    show Steps p.tables e below (s₁.setTop (mkF m 28 #[.val (.ref t), .val (.int 46), .val (.int 0), .val (.int 8), .val (.int 46), .val (.int 4)] [])) _
    refine XS.goto X0.here hx rfl (pc0 := 28) (pc' := 7) rfl (hb hby d18_28) (by decide) (by decide) ?_
    refine XS.iload X0.here hx rfl (hb hby d18_7) rfl ?_
    refine XS.iloadN X0.here hx rfl (hb hby d18_9) rfl ?_
    show Steps p.tables e below (s₁.setTop (mkF m 10 #[.val (.ref t), .val (.int 46), .val (.int 0), .val (.int 8), .val (.int 46), .val (.int 4)] [(.int 8), (.int 4)])) _
    refine XS.icmpNo X0.here hx rfl (hb hby d18_10) rfl (tlt (by decide : (4 : Int32) < (8 : Int32))).2.1 ?_
    refine XS.aloadN X0.here hx rfl (hb hby d18_13) rfl rfl ?_
    refine XS.iload X0.here hx rfl (hb hby d18_14) rfl ?_
    show Steps p.tables e below (s₁.setTop (mkF m 16 #[.val (.ref t), .val (.int 46), .val (.int 0), .val (.int 8), .val (.int 46), .val (.int 4)] [(.int 4), (.ref t)])) _
    refine X0.baloadBytes hx (j := (4 : Int32)) (v := (.int b4)) (by rw [e0]; exact Ar_t_102.1) (State.isArrayOf_alike hZ.alike Ar_t_102.2.1) Ar_t_102.2.2 hint_102 hatt_102 (g := (mkF m 16 #[.val (.ref t), .val (.int 46), .val (.int 0), .val (.int 8), .val (.int 46), .val (.int 4)] [(.int 4), (.ref t)])) rfl rfl (hb hby d18_16) _ ?_
    show Steps p.tables e below (s₁.setTop (mkF m 17 #[.val (.ref t), .val (.int 46), .val (.int 0), .val (.int 8), .val (.int 46), .val (.int 4)] [(.int b4)])) _
    refine XS.iload X0.here hx rfl (hb hby d18_17) rfl ?_
    refine XS.icmpYes X0.here hx rfl (pc0 := 19) (pc' := 25) rfl (hb hby d18_19) rfl (feq hn4).2 (by decide) (by decide) ?_
    refine XS.iinc X0.here hx rfl (hb hby d18_25) rfl (l' := #[.val (.ref t), .val (.int 46), .val (.int 0), .val (.int 8), .val (.int 46), .val (.int 5)]) rfl ?_
    show Steps p.tables e below (s₁.setTop (mkF m 28 #[.val (.ref t), .val (.int 46), .val (.int 0), .val (.int 8), .val (.int 46), .val (.int 5)] [])) _
    refine XS.goto X0.here hx rfl (pc0 := 28) (pc' := 7) rfl (hb hby d18_28) (by decide) (by decide) ?_
    refine XS.iload X0.here hx rfl (hb hby d18_7) rfl ?_
    refine XS.iloadN X0.here hx rfl (hb hby d18_9) rfl ?_
    show Steps p.tables e below (s₁.setTop (mkF m 10 #[.val (.ref t), .val (.int 46), .val (.int 0), .val (.int 8), .val (.int 46), .val (.int 5)] [(.int 8), (.int 5)])) _
    refine XS.icmpNo X0.here hx rfl (hb hby d18_10) rfl (tlt (by decide : (5 : Int32) < (8 : Int32))).2.1 ?_
    refine XS.aloadN X0.here hx rfl (hb hby d18_13) rfl rfl ?_
    refine XS.iload X0.here hx rfl (hb hby d18_14) rfl ?_
    show Steps p.tables e below (s₁.setTop (mkF m 16 #[.val (.ref t), .val (.int 46), .val (.int 0), .val (.int 8), .val (.int 46), .val (.int 5)] [(.int 5), (.ref t)])) _
    refine X0.baloadBytes hx (j := (5 : Int32)) (v := (.int 46)) (by rw [e0]; exact Ar_t_122.1) (State.isArrayOf_alike hZ.alike Ar_t_122.2.1) Ar_t_122.2.2 hint_122 hatt_122 (g := (mkF m 16 #[.val (.ref t), .val (.int 46), .val (.int 0), .val (.int 8), .val (.int 46), .val (.int 5)] [(.int 5), (.ref t)])) rfl rfl (hb hby d18_16) _ ?_
    show Steps p.tables e below (s₁.setTop (mkF m 17 #[.val (.ref t), .val (.int 46), .val (.int 0), .val (.int 8), .val (.int 46), .val (.int 5)] [(.int 46)])) _
    refine XS.iload X0.here hx rfl (hb hby d18_17) rfl ?_
    refine XS.icmpNo X0.here hx rfl (hb hby d18_19) rfl (teq (by decide : (46 : Int32) = (46 : Int32))).2 ?_
    refine XS.iload X0.here hx rfl (hb hby d18_22) rfl ?_
    show Steps p.tables e below (s₁.setTop (mkF m 24 #[.val (.ref t), .val (.int 46), .val (.int 0), .val (.int 8), .val (.int 46), .val (.int 5)] [(.int 5)])) _
    exact retI X0 hx Bd.returns (hb hby d18_24) hr
  · show QP (.int (5 : Int32)) h0 n0 _ s₁.heap _
    rw [e0]
    exact ⟨rfl, N0, rfl⟩
set_option maxRecDepth 65536 in
set_option maxHeartbeats 40000000 in
theorem rmIC_6 (l : Launch) (Z : State) (a0 : Array Value) (hw : ∀ d ∈ tables_1, d.before a0 Z = true) (ws : List Jvm.Cond) (t : Addr) (kb : ClassId) (b0 b1 b2 b3 b4 b5 b6 b7 : Int32) (h0 : Heap) (n0 : Nat) (O0 : Old Z n0 h0) (K : Arv Z h0 t kb .byte (8 : Int32) [(.int b0), (.int b1), (.int b2), (.int b3), (.int b4), (.int b5), (.int 46), (.int b7)] (.int (0 : Int32))) (hn0 : ¬ (b0 = (46 : Int32))) (hn1 : ¬ (b1 = (46 : Int32))) (hn2 : ¬ (b2 = (46 : Int32))) (hn3 : ¬ (b3 = (46 : Int32))) (hn4 : ¬ (b4 = (46 : Int32))) (hn5 : ¬ (b5 = (46 : Int32))) :
    MetFree l y18 (head1 (Jvm.Cond.code y18 jdk_43_method_23_code 6 (some .int) :: ws) ({ frames := 0, cells := 0, slots := 0, locals := 0 } : Room)) (fun a_ U => a_ = #[(.ref t), (.int 46), (.int 0), (.int 8)] ∧ Z.Warmed39 U.vm ∧ U.heap = h0) (fun _ _ _ _ _ => True) (fun _ U o U' => ∃ v L, o = .returned v ∧ QP (.int (6 : Int32)) h0 n0 v U'.heap L ∧ FrameEnd U o U' L 0 0) := by
  refine MetFree.of_bodySF (plainFor_of_name pn_1) hisR ?_
  intro p e s m args below meth c s₁ Bd hml0 hP hK
  obtain ⟨rfl, hZ, hh⟩ := hP
  have hx := Bd.exec
  have hby := Bd.bytes
  have hml : c.maxLocals = 6 := hml0
  have hown : s.vm.findClass "java/lang/StringLatin1" = some m.cls := findClass_of_methodNamed Bd.named
  have hnm := (name_of_methodNamed Bd.named Bd.method).1
  have X0 : Stand p l e ({ frames := 0, cells := 0, slots := 0, locals := 0 } : Room) s m #[(.ref t), (.int 46), (.int 0), (.int 8)] below meth c s₁ [] 0 0 := Stand.of_body Bd
  have e0 : s₁.heap = h0 := by rw [← hh, Bd.state]; rfl
  have N0 := Fr.nil n0
  have pre0 : ∀ tg, Steps p.tables e below (s₁.setTop (mkF m 0 #[.val (.ref t), .val (.int 46), .val (.int 0), .val (.int 8), .unset, .unset] [])) tg → Steps p.tables e below (s₁.setTop (entryFrame m #[(.ref t), (.int 46), (.int 0), (.int 8)] 6)) tg := fun tg kq => castTop (ef_RIII_6 m t (46 : Int32) (0 : Int32) (8 : Int32)) kq
  obtain ⟨cl_t_22, Ar_t_22, q_t_22, S_t_22, N_t_22, H_t_22, G_t_22⟩ := id (K)
  have hint_22 : ¬ ((0 : Int32) < 0 ∨ cl_t_22.slots.size ≤ ((0 : Int32)).toNatClampNeg) := inb_of S_t_22 ⟨by decide, by decide⟩
  have hatt_22 : cl_t_22.slots[((0 : Int32)).toNatClampNeg]? = some (.int b0) := H_t_22.at hint_22 rfl
  obtain ⟨cl_t_42, Ar_t_42, q_t_42, S_t_42, N_t_42, H_t_42, G_t_42⟩ := id (K)
  have hint_42 : ¬ ((1 : Int32) < 0 ∨ cl_t_42.slots.size ≤ ((1 : Int32)).toNatClampNeg) := inb_of S_t_42 ⟨by decide, by decide⟩
  have hatt_42 : cl_t_42.slots[((1 : Int32)).toNatClampNeg]? = some (.int b1) := H_t_42.at hint_42 rfl
  obtain ⟨cl_t_62, Ar_t_62, q_t_62, S_t_62, N_t_62, H_t_62, G_t_62⟩ := id (K)
  have hint_62 : ¬ ((2 : Int32) < 0 ∨ cl_t_62.slots.size ≤ ((2 : Int32)).toNatClampNeg) := inb_of S_t_62 ⟨by decide, by decide⟩
  have hatt_62 : cl_t_62.slots[((2 : Int32)).toNatClampNeg]? = some (.int b2) := H_t_62.at hint_62 rfl
  obtain ⟨cl_t_82, Ar_t_82, q_t_82, S_t_82, N_t_82, H_t_82, G_t_82⟩ := id (K)
  have hint_82 : ¬ ((3 : Int32) < 0 ∨ cl_t_82.slots.size ≤ ((3 : Int32)).toNatClampNeg) := inb_of S_t_82 ⟨by decide, by decide⟩
  have hatt_82 : cl_t_82.slots[((3 : Int32)).toNatClampNeg]? = some (.int b3) := H_t_82.at hint_82 rfl
  obtain ⟨cl_t_102, Ar_t_102, q_t_102, S_t_102, N_t_102, H_t_102, G_t_102⟩ := id (K)
  have hint_102 : ¬ ((4 : Int32) < 0 ∨ cl_t_102.slots.size ≤ ((4 : Int32)).toNatClampNeg) := inb_of S_t_102 ⟨by decide, by decide⟩
  have hatt_102 : cl_t_102.slots[((4 : Int32)).toNatClampNeg]? = some (.int b4) := H_t_102.at hint_102 rfl
  obtain ⟨cl_t_122, Ar_t_122, q_t_122, S_t_122, N_t_122, H_t_122, G_t_122⟩ := id (K)
  have hint_122 : ¬ ((5 : Int32) < 0 ∨ cl_t_122.slots.size ≤ ((5 : Int32)).toNatClampNeg) := inb_of S_t_122 ⟨by decide, by decide⟩
  have hatt_122 : cl_t_122.slots[((5 : Int32)).toNatClampNeg]? = some (.int b5) := H_t_122.at hint_122 rfl
  obtain ⟨cl_t_142, Ar_t_142, q_t_142, S_t_142, N_t_142, H_t_142, G_t_142⟩ := id (K)
  have hint_142 : ¬ ((6 : Int32) < 0 ∨ cl_t_142.slots.size ≤ ((6 : Int32)).toNatClampNeg) := inb_of S_t_142 ⟨by decide, by decide⟩
  have hatt_142 : cl_t_142.slots[((6 : Int32)).toNatClampNeg]? = some (.int 46) := H_t_142.at hint_142 rfl
  obtain ⟨fs, hr, hrun, hended, hW, hsame⟩ := X0.leave (v := some (.int 6)) (fun h => by rw [Bd.returns] at h; cases h)
  refine ⟨_, _, pre0 _ ?_, hrun, hended, _, _, rfl, ?_, ⟨_, rfl⟩, hW, hsame.mono (by decide) (by decide)⟩
  · show Steps p.tables e below (s₁.setTop (mkF m 0 #[.val (.ref t), .val (.int 46), .val (.int 0), .val (.int 8), .unset, .unset] [])) _
    refine XS.iloadN X0.here hx rfl (hb hby d18_0) rfl ?_
    show Steps p.tables e below (s₁.setTop (mkF m 1 #[.val (.ref t), .val (.int 46), .val (.int 0), .val (.int 8), .unset, .unset] [(.int 46)])) _
    refine XS.i2b X0.here hx rfl (hb hby d18_1) rfl ?_
    rw [show ((46 : Int32).toInt8.toInt32) = (46 : Int32) from by decide]
    show Steps p.tables e below (s₁.setTop (mkF m 2 #[.val (.ref t), .val (.int 46), .val (.int 0), .val (.int 8), .unset, .unset] [(.int 46)])) _
    refine XS.istore X0.here hx rfl (hb hby d18_2) rfl (l' := #[.val (.ref t), .val (.int 46), .val (.int 0), .val (.int 8), .val (.int 46), .unset]) rfl ?_
    refine XS.iloadN X0.here hx rfl (hb hby d18_4) rfl ?_
    refine XS.istore X0.here hx rfl (hb hby d18_5) rfl (l' := #[.val (.ref t), .val (.int 46), .val (.int 0), .val (.int 8), .val (.int 46), .val (.int 0)]) rfl ?_
    show Steps p.tables e below (s₁.setTop (mkF m 7 #[.val (.ref t), .val (.int 46), .val (.int 0), .val (.int 8), .val (.int 46), .val (.int 0)] [])) _
    refine XS.iload X0.here hx rfl (hb hby d18_7) rfl ?_
    refine XS.iloadN X0.here hx rfl (hb hby d18_9) rfl ?_
    refine XS.icmpNo X0.here hx rfl (hb hby d18_10) rfl (tlt (by decide : (0 : Int32) < (8 : Int32))).2.1 ?_
    show Steps p.tables e below (s₁.setTop (mkF m 13 #[.val (.ref t), .val (.int 46), .val (.int 0), .val (.int 8), .val (.int 46), .val (.int 0)] [])) _
    refine XS.aloadN X0.here hx rfl (hb hby d18_13) rfl rfl ?_
    refine XS.iload X0.here hx rfl (hb hby d18_14) rfl ?_
    show Steps p.tables e below (s₁.setTop (mkF m 16 #[.val (.ref t), .val (.int 46), .val (.int 0), .val (.int 8), .val (.int 46), .val (.int 0)] [(.int 0), (.ref t)])) _
    refine X0.baloadBytes hx (j := (0 : Int32)) (v := (.int b0)) (by rw [e0]; exact Ar_t_22.1) (State.isArrayOf_alike hZ.alike Ar_t_22.2.1) Ar_t_22.2.2 hint_22 hatt_22 (g := (mkF m 16 #[.val (.ref t), .val (.int 46), .val (.int 0), .val (.int 8), .val (.int 46), .val (.int 0)] [(.int 0), (.ref t)])) rfl rfl (hb hby d18_16) _ ?_
    show Steps p.tables e below (s₁.setTop (mkF m 17 #[.val (.ref t), .val (.int 46), .val (.int 0), .val (.int 8), .val (.int 46), .val (.int 0)] [(.int b0)])) _
    refine XS.iload X0.here hx rfl (hb hby d18_17) rfl ?_
    refine XS.icmpYes X0.here hx rfl (pc0 := 19) (pc' := 25) rfl (hb hby d18_19) rfl (feq hn0).2 (by decide) (by decide) ?_
    refine XS.iinc X0.here hx rfl (hb hby d18_25) rfl (l' := #[.val (.ref t), .val (.int 46), .val (.int 0), .val (.int 8), .val (.int 46), .val (.int 1)]) rfl ?_
    show Steps p.tables e below (s₁.setTop (mkF m 28 #[.val (.ref t), .val (.int 46), .val (.int 0), .val (.int 8), .val (.int 46), .val (.int 1)] [])) _
    refine XS.goto X0.here hx rfl (pc0 := 28) (pc' := 7) rfl (hb hby d18_28) (by decide) (by decide) ?_
    refine XS.iload X0.here hx rfl (hb hby d18_7) rfl ?_
    refine XS.iloadN X0.here hx rfl (hb hby d18_9) rfl ?_
    show Steps p.tables e below (s₁.setTop (mkF m 10 #[.val (.ref t), .val (.int 46), .val (.int 0), .val (.int 8), .val (.int 46), .val (.int 1)] [(.int 8), (.int 1)])) _
    refine XS.icmpNo X0.here hx rfl (hb hby d18_10) rfl (tlt (by decide : (1 : Int32) < (8 : Int32))).2.1 ?_
    refine XS.aloadN X0.here hx rfl (hb hby d18_13) rfl rfl ?_
    refine XS.iload X0.here hx rfl (hb hby d18_14) rfl ?_
    show Steps p.tables e below (s₁.setTop (mkF m 16 #[.val (.ref t), .val (.int 46), .val (.int 0), .val (.int 8), .val (.int 46), .val (.int 1)] [(.int 1), (.ref t)])) _
    refine X0.baloadBytes hx (j := (1 : Int32)) (v := (.int b1)) (by rw [e0]; exact Ar_t_42.1) (State.isArrayOf_alike hZ.alike Ar_t_42.2.1) Ar_t_42.2.2 hint_42 hatt_42 (g := (mkF m 16 #[.val (.ref t), .val (.int 46), .val (.int 0), .val (.int 8), .val (.int 46), .val (.int 1)] [(.int 1), (.ref t)])) rfl rfl (hb hby d18_16) _ ?_
    show Steps p.tables e below (s₁.setTop (mkF m 17 #[.val (.ref t), .val (.int 46), .val (.int 0), .val (.int 8), .val (.int 46), .val (.int 1)] [(.int b1)])) _
    refine XS.iload X0.here hx rfl (hb hby d18_17) rfl ?_
    refine XS.icmpYes X0.here hx rfl (pc0 := 19) (pc' := 25) rfl (hb hby d18_19) rfl (feq hn1).2 (by decide) (by decide) ?_
    refine XS.iinc X0.here hx rfl (hb hby d18_25) rfl (l' := #[.val (.ref t), .val (.int 46), .val (.int 0), .val (.int 8), .val (.int 46), .val (.int 2)]) rfl ?_
    show Steps p.tables e below (s₁.setTop (mkF m 28 #[.val (.ref t), .val (.int 46), .val (.int 0), .val (.int 8), .val (.int 46), .val (.int 2)] [])) _
    refine XS.goto X0.here hx rfl (pc0 := 28) (pc' := 7) rfl (hb hby d18_28) (by decide) (by decide) ?_
    refine XS.iload X0.here hx rfl (hb hby d18_7) rfl ?_
    refine XS.iloadN X0.here hx rfl (hb hby d18_9) rfl ?_
    show Steps p.tables e below (s₁.setTop (mkF m 10 #[.val (.ref t), .val (.int 46), .val (.int 0), .val (.int 8), .val (.int 46), .val (.int 2)] [(.int 8), (.int 2)])) _
    refine XS.icmpNo X0.here hx rfl (hb hby d18_10) rfl (tlt (by decide : (2 : Int32) < (8 : Int32))).2.1 ?_
    refine XS.aloadN X0.here hx rfl (hb hby d18_13) rfl rfl ?_
    refine XS.iload X0.here hx rfl (hb hby d18_14) rfl ?_
    show Steps p.tables e below (s₁.setTop (mkF m 16 #[.val (.ref t), .val (.int 46), .val (.int 0), .val (.int 8), .val (.int 46), .val (.int 2)] [(.int 2), (.ref t)])) _
    refine X0.baloadBytes hx (j := (2 : Int32)) (v := (.int b2)) (by rw [e0]; exact Ar_t_62.1) (State.isArrayOf_alike hZ.alike Ar_t_62.2.1) Ar_t_62.2.2 hint_62 hatt_62 (g := (mkF m 16 #[.val (.ref t), .val (.int 46), .val (.int 0), .val (.int 8), .val (.int 46), .val (.int 2)] [(.int 2), (.ref t)])) rfl rfl (hb hby d18_16) _ ?_
    show Steps p.tables e below (s₁.setTop (mkF m 17 #[.val (.ref t), .val (.int 46), .val (.int 0), .val (.int 8), .val (.int 46), .val (.int 2)] [(.int b2)])) _
    refine XS.iload X0.here hx rfl (hb hby d18_17) rfl ?_
    refine XS.icmpYes X0.here hx rfl (pc0 := 19) (pc' := 25) rfl (hb hby d18_19) rfl (feq hn2).2 (by decide) (by decide) ?_
    refine XS.iinc X0.here hx rfl (hb hby d18_25) rfl (l' := #[.val (.ref t), .val (.int 46), .val (.int 0), .val (.int 8), .val (.int 46), .val (.int 3)]) rfl ?_
    show Steps p.tables e below (s₁.setTop (mkF m 28 #[.val (.ref t), .val (.int 46), .val (.int 0), .val (.int 8), .val (.int 46), .val (.int 3)] [])) _
    refine XS.goto X0.here hx rfl (pc0 := 28) (pc' := 7) rfl (hb hby d18_28) (by decide) (by decide) ?_
    refine XS.iload X0.here hx rfl (hb hby d18_7) rfl ?_
    refine XS.iloadN X0.here hx rfl (hb hby d18_9) rfl ?_
    show Steps p.tables e below (s₁.setTop (mkF m 10 #[.val (.ref t), .val (.int 46), .val (.int 0), .val (.int 8), .val (.int 46), .val (.int 3)] [(.int 8), (.int 3)])) _
    refine XS.icmpNo X0.here hx rfl (hb hby d18_10) rfl (tlt (by decide : (3 : Int32) < (8 : Int32))).2.1 ?_
    refine XS.aloadN X0.here hx rfl (hb hby d18_13) rfl rfl ?_
    refine XS.iload X0.here hx rfl (hb hby d18_14) rfl ?_
    show Steps p.tables e below (s₁.setTop (mkF m 16 #[.val (.ref t), .val (.int 46), .val (.int 0), .val (.int 8), .val (.int 46), .val (.int 3)] [(.int 3), (.ref t)])) _
    refine X0.baloadBytes hx (j := (3 : Int32)) (v := (.int b3)) (by rw [e0]; exact Ar_t_82.1) (State.isArrayOf_alike hZ.alike Ar_t_82.2.1) Ar_t_82.2.2 hint_82 hatt_82 (g := (mkF m 16 #[.val (.ref t), .val (.int 46), .val (.int 0), .val (.int 8), .val (.int 46), .val (.int 3)] [(.int 3), (.ref t)])) rfl rfl (hb hby d18_16) _ ?_
    show Steps p.tables e below (s₁.setTop (mkF m 17 #[.val (.ref t), .val (.int 46), .val (.int 0), .val (.int 8), .val (.int 46), .val (.int 3)] [(.int b3)])) _
    refine XS.iload X0.here hx rfl (hb hby d18_17) rfl ?_
    refine XS.icmpYes X0.here hx rfl (pc0 := 19) (pc' := 25) rfl (hb hby d18_19) rfl (feq hn3).2 (by decide) (by decide) ?_
    refine XS.iinc X0.here hx rfl (hb hby d18_25) rfl (l' := #[.val (.ref t), .val (.int 46), .val (.int 0), .val (.int 8), .val (.int 46), .val (.int 4)]) rfl ?_
    show Steps p.tables e below (s₁.setTop (mkF m 28 #[.val (.ref t), .val (.int 46), .val (.int 0), .val (.int 8), .val (.int 46), .val (.int 4)] [])) _
    refine XS.goto X0.here hx rfl (pc0 := 28) (pc' := 7) rfl (hb hby d18_28) (by decide) (by decide) ?_
    refine XS.iload X0.here hx rfl (hb hby d18_7) rfl ?_
    refine XS.iloadN X0.here hx rfl (hb hby d18_9) rfl ?_
    show Steps p.tables e below (s₁.setTop (mkF m 10 #[.val (.ref t), .val (.int 46), .val (.int 0), .val (.int 8), .val (.int 46), .val (.int 4)] [(.int 8), (.int 4)])) _
    refine XS.icmpNo X0.here hx rfl (hb hby d18_10) rfl (tlt (by decide : (4 : Int32) < (8 : Int32))).2.1 ?_
    refine XS.aloadN X0.here hx rfl (hb hby d18_13) rfl rfl ?_
    refine XS.iload X0.here hx rfl (hb hby d18_14) rfl ?_
    show Steps p.tables e below (s₁.setTop (mkF m 16 #[.val (.ref t), .val (.int 46), .val (.int 0), .val (.int 8), .val (.int 46), .val (.int 4)] [(.int 4), (.ref t)])) _
    refine X0.baloadBytes hx (j := (4 : Int32)) (v := (.int b4)) (by rw [e0]; exact Ar_t_102.1) (State.isArrayOf_alike hZ.alike Ar_t_102.2.1) Ar_t_102.2.2 hint_102 hatt_102 (g := (mkF m 16 #[.val (.ref t), .val (.int 46), .val (.int 0), .val (.int 8), .val (.int 46), .val (.int 4)] [(.int 4), (.ref t)])) rfl rfl (hb hby d18_16) _ ?_
    show Steps p.tables e below (s₁.setTop (mkF m 17 #[.val (.ref t), .val (.int 46), .val (.int 0), .val (.int 8), .val (.int 46), .val (.int 4)] [(.int b4)])) _
    refine XS.iload X0.here hx rfl (hb hby d18_17) rfl ?_
    refine XS.icmpYes X0.here hx rfl (pc0 := 19) (pc' := 25) rfl (hb hby d18_19) rfl (feq hn4).2 (by decide) (by decide) ?_
    refine XS.iinc X0.here hx rfl (hb hby d18_25) rfl (l' := #[.val (.ref t), .val (.int 46), .val (.int 0), .val (.int 8), .val (.int 46), .val (.int 5)]) rfl ?_
    show Steps p.tables e below (s₁.setTop (mkF m 28 #[.val (.ref t), .val (.int 46), .val (.int 0), .val (.int 8), .val (.int 46), .val (.int 5)] [])) _
    refine XS.goto X0.here hx rfl (pc0 := 28) (pc' := 7) rfl (hb hby d18_28) (by decide) (by decide) ?_
    refine XS.iload X0.here hx rfl (hb hby d18_7) rfl ?_
    refine XS.iloadN X0.here hx rfl (hb hby d18_9) rfl ?_
    show Steps p.tables e below (s₁.setTop (mkF m 10 #[.val (.ref t), .val (.int 46), .val (.int 0), .val (.int 8), .val (.int 46), .val (.int 5)] [(.int 8), (.int 5)])) _
    refine XS.icmpNo X0.here hx rfl (hb hby d18_10) rfl (tlt (by decide : (5 : Int32) < (8 : Int32))).2.1 ?_
    refine XS.aloadN X0.here hx rfl (hb hby d18_13) rfl rfl ?_
    refine XS.iload X0.here hx rfl (hb hby d18_14) rfl ?_
    show Steps p.tables e below (s₁.setTop (mkF m 16 #[.val (.ref t), .val (.int 46), .val (.int 0), .val (.int 8), .val (.int 46), .val (.int 5)] [(.int 5), (.ref t)])) _
    refine X0.baloadBytes hx (j := (5 : Int32)) (v := (.int b5)) (by rw [e0]; exact Ar_t_122.1) (State.isArrayOf_alike hZ.alike Ar_t_122.2.1) Ar_t_122.2.2 hint_122 hatt_122 (g := (mkF m 16 #[.val (.ref t), .val (.int 46), .val (.int 0), .val (.int 8), .val (.int 46), .val (.int 5)] [(.int 5), (.ref t)])) rfl rfl (hb hby d18_16) _ ?_
    show Steps p.tables e below (s₁.setTop (mkF m 17 #[.val (.ref t), .val (.int 46), .val (.int 0), .val (.int 8), .val (.int 46), .val (.int 5)] [(.int b5)])) _
    refine XS.iload X0.here hx rfl (hb hby d18_17) rfl ?_
    refine XS.icmpYes X0.here hx rfl (pc0 := 19) (pc' := 25) rfl (hb hby d18_19) rfl (feq hn5).2 (by decide) (by decide) ?_
    refine XS.iinc X0.here hx rfl (hb hby d18_25) rfl (l' := #[.val (.ref t), .val (.int 46), .val (.int 0), .val (.int 8), .val (.int 46), .val (.int 6)]) rfl ?_
    show Steps p.tables e below (s₁.setTop (mkF m 28 #[.val (.ref t), .val (.int 46), .val (.int 0), .val (.int 8), .val (.int 46), .val (.int 6)] [])) _
    refine XS.goto X0.here hx rfl (pc0 := 28) (pc' := 7) rfl (hb hby d18_28) (by decide) (by decide) ?_
    refine XS.iload X0.here hx rfl (hb hby d18_7) rfl ?_
    refine XS.iloadN X0.here hx rfl (hb hby d18_9) rfl ?_
    show Steps p.tables e below (s₁.setTop (mkF m 10 #[.val (.ref t), .val (.int 46), .val (.int 0), .val (.int 8), .val (.int 46), .val (.int 6)] [(.int 8), (.int 6)])) _
    refine XS.icmpNo X0.here hx rfl (hb hby d18_10) rfl (tlt (by decide : (6 : Int32) < (8 : Int32))).2.1 ?_
    refine XS.aloadN X0.here hx rfl (hb hby d18_13) rfl rfl ?_
    refine XS.iload X0.here hx rfl (hb hby d18_14) rfl ?_
    show Steps p.tables e below (s₁.setTop (mkF m 16 #[.val (.ref t), .val (.int 46), .val (.int 0), .val (.int 8), .val (.int 46), .val (.int 6)] [(.int 6), (.ref t)])) _
    refine X0.baloadBytes hx (j := (6 : Int32)) (v := (.int 46)) (by rw [e0]; exact Ar_t_142.1) (State.isArrayOf_alike hZ.alike Ar_t_142.2.1) Ar_t_142.2.2 hint_142 hatt_142 (g := (mkF m 16 #[.val (.ref t), .val (.int 46), .val (.int 0), .val (.int 8), .val (.int 46), .val (.int 6)] [(.int 6), (.ref t)])) rfl rfl (hb hby d18_16) _ ?_
    show Steps p.tables e below (s₁.setTop (mkF m 17 #[.val (.ref t), .val (.int 46), .val (.int 0), .val (.int 8), .val (.int 46), .val (.int 6)] [(.int 46)])) _
    refine XS.iload X0.here hx rfl (hb hby d18_17) rfl ?_
    refine XS.icmpNo X0.here hx rfl (hb hby d18_19) rfl (teq (by decide : (46 : Int32) = (46 : Int32))).2 ?_
    refine XS.iload X0.here hx rfl (hb hby d18_22) rfl ?_
    show Steps p.tables e below (s₁.setTop (mkF m 24 #[.val (.ref t), .val (.int 46), .val (.int 0), .val (.int 8), .val (.int 46), .val (.int 6)] [(.int 6)])) _
    exact retI X0 hx Bd.returns (hb hby d18_24) hr
  · show QP (.int (6 : Int32)) h0 n0 _ s₁.heap _
    rw [e0]
    exact ⟨rfl, N0, rfl⟩
def IcOK (vs : List Value) (mm : Int32) : Prop := ∃ b0 b1 b2 b3 b4 b5 b6 b7 : Int32, (mm = 1 ∧ vs = [(.int b0), (.int 46), (.int b2), (.int b3), (.int b4), (.int b5), (.int b6), (.int b7)] ∧ ¬ b0 = (46 : Int32)) ∨ (mm = 2 ∧ vs = [(.int b0), (.int b1), (.int 46), (.int b3), (.int b4), (.int b5), (.int b6), (.int b7)] ∧ ¬ b0 = (46 : Int32) ∧ ¬ b1 = (46 : Int32)) ∨ (mm = 3 ∧ vs = [(.int b0), (.int b1), (.int b2), (.int 46), (.int b4), (.int b5), (.int b6), (.int b7)] ∧ ¬ b0 = (46 : Int32) ∧ ¬ b1 = (46 : Int32) ∧ ¬ b2 = (46 : Int32)) ∨ (mm = 4 ∧ vs = [(.int b0), (.int b1), (.int b2), (.int b3), (.int 46), (.int b5), (.int b6), (.int b7)] ∧ ¬ b0 = (46 : Int32) ∧ ¬ b1 = (46 : Int32) ∧ ¬ b2 = (46 : Int32) ∧ ¬ b3 = (46 : Int32)) ∨ (mm = 5 ∧ vs = [(.int b0), (.int b1), (.int b2), (.int b3), (.int b4), (.int 46), (.int b6), (.int b7)] ∧ ¬ b0 = (46 : Int32) ∧ ¬ b1 = (46 : Int32) ∧ ¬ b2 = (46 : Int32) ∧ ¬ b3 = (46 : Int32) ∧ ¬ b4 = (46 : Int32)) ∨ (mm = 6 ∧ vs = [(.int b0), (.int b1), (.int b2), (.int b3), (.int b4), (.int b5), (.int 46), (.int b7)] ∧ ¬ b0 = (46 : Int32) ∧ ¬ b1 = (46 : Int32) ∧ ¬ b2 = (46 : Int32) ∧ ¬ b3 = (46 : Int32) ∧ ¬ b4 = (46 : Int32) ∧ ¬ b5 = (46 : Int32))
theorem rmIC (l : Launch) (Z : State) (a0 : Array Value) (hw : ∀ d ∈ tables_1, d.before a0 Z = true) (ws : List Jvm.Cond) (t : Addr) (kb : ClassId) (mm : Int32) (vs : List Value) (h0 : Heap) (n0 : Nat) (O0 : Old Z n0 h0) (K : Arv Z h0 t kb .byte (8 : Int32) vs (.int (0 : Int32))) (hic : IcOK vs mm) :
    MetFree l y18 (head1 (Jvm.Cond.code y18 jdk_43_method_23_code 6 (some .int) :: ws) ({ frames := 0, cells := 0, slots := 0, locals := 0 } : Room)) (fun a_ U => a_ = #[(.ref t), (.int 46), (.int 0), (.int 8)] ∧ Z.Warmed39 U.vm ∧ U.heap = h0) (fun _ _ _ _ _ => True) (fun _ U o U' => ∃ v L, o = .returned v ∧ QP (.int mm) h0 n0 v U'.heap L ∧ FrameEnd U o U' L 0 0) := by
  obtain ⟨b0, b1, b2, b3, b4, b5, b6, b7, hc⟩ := hic
  rcases hc with ⟨rfl, rfl, nb0⟩ | ⟨rfl, rfl, nb0, nb1⟩ | ⟨rfl, rfl, nb0, nb1, nb2⟩ | ⟨rfl, rfl, nb0, nb1, nb2, nb3⟩ | ⟨rfl, rfl, nb0, nb1, nb2, nb3, nb4⟩ | ⟨rfl, rfl, nb0, nb1, nb2, nb3, nb4, nb5⟩
  · exact rmIC_1 l Z a0 hw ws t kb b0 b1 b2 b3 b4 b5 b6 b7 h0 n0 O0 K nb0
  · exact rmIC_2 l Z a0 hw ws t kb b0 b1 b2 b3 b4 b5 b6 b7 h0 n0 O0 K nb0 nb1
  · exact rmIC_3 l Z a0 hw ws t kb b0 b1 b2 b3 b4 b5 b6 b7 h0 n0 O0 K nb0 nb1 nb2
  · exact rmIC_4 l Z a0 hw ws t kb b0 b1 b2 b3 b4 b5 b6 b7 h0 n0 O0 K nb0 nb1 nb2 nb3
  · exact rmIC_5 l Z a0 hw ws t kb b0 b1 b2 b3 b4 b5 b6 b7 h0 n0 O0 K nb0 nb1 nb2 nb3 nb4
  · exact rmIC_6 l Z a0 hw ws t kb b0 b1 b2 b3 b4 b5 b6 b7 h0 n0 O0 K nb0 nb1 nb2 nb3 nb4 nb5
theorem d14_0 : decode jdk_43_method_22_code 0 = .ok (.iload_n 1, 1) := by decide +kernel
theorem d14_1 : decode jdk_43_method_22_code 1 = .ok (.invokestatic 88, 3) := by decide +kernel
theorem pd_1 : parseMethodDescriptor "(I)Z" = some ⟨[.int], some .boolean⟩ := by decide +kernel
theorem d14_4 : decode jdk_43_method_22_code 4 = .ok (.ifCond .ne 5, 3) := by decide +kernel
theorem d14_9 : decode jdk_43_method_22_code 9 = .ok (.iload_n 2, 1) := by decide +kernel
theorem d14_10 : decode jdk_43_method_22_code 10 = .ok (.iconst 0, 1) := by decide +kernel
theorem d14_11 : decode jdk_43_method_22_code 11 = .ok (.invokestatic 92, 3) := by decide +kernel
theorem pd_2 : parseMethodDescriptor "(II)I" = some ⟨[.int, .int], some .int⟩ := by decide +kernel
theorem d14_14 : decode jdk_43_method_22_code 14 = .ok (.istore_n 2, 1) := by decide +kernel
theorem d14_15 : decode jdk_43_method_22_code 15 = .ok (.iload_n 3, 1) := by decide +kernel
theorem d14_16 : decode jdk_43_method_22_code 16 = .ok (.aload_n 0, 1) := by decide +kernel
theorem d14_17 : decode jdk_43_method_22_code 17 = .ok (.arraylength, 1) := by decide +kernel
theorem d14_18 : decode jdk_43_method_22_code 18 = .ok (.invokestatic 38, 3) := by decide +kernel
theorem d14_21 : decode jdk_43_method_22_code 21 = .ok (.istore_n 3, 1) := by decide +kernel
theorem d14_22 : decode jdk_43_method_22_code 22 = .ok (.iload_n 2, 1) := by decide +kernel
theorem d14_23 : decode jdk_43_method_22_code 23 = .ok (.iload_n 3, 1) := by decide +kernel
theorem d14_24 : decode jdk_43_method_22_code 24 = .ok (.if_icmp .lt 5, 3) := by decide +kernel
theorem d14_29 : decode jdk_43_method_22_code 29 = .ok (.aload_n 0, 1) := by decide +kernel
theorem d14_30 : decode jdk_43_method_22_code 30 = .ok (.iload_n 1, 1) := by decide +kernel
theorem d14_31 : decode jdk_43_method_22_code 31 = .ok (.iload_n 2, 1) := by decide +kernel
theorem d14_32 : decode jdk_43_method_22_code 32 = .ok (.iload_n 3, 1) := by decide +kernel
theorem d14_33 : decode jdk_43_method_22_code 33 = .ok (.invokestatic 95, 3) := by decide +kernel
theorem pd_3 : parseMethodDescriptor "([BIII)I" = some ⟨[(.array .byte), .int, .int, .int], some .int⟩ := by decide +kernel
theorem d14_36 : decode jdk_43_method_22_code 36 = .ok (.ireturn, 1) := by decide +kernel
abbrev y14 : MethodName := ⟨"java/lang/StringLatin1", "indexOf", "([BIII)I"⟩
theorem ef_RIII_4 (m : MethodId) (x0 : Addr) (x1 : Int32) (x2 : Int32) (x3 : Int32) : entryFrame m #[(.ref x0), (.int x1), (.int x2), (.int x3)] 4 = mkF m 0 #[.val (.ref x0), .val (.int x1), .val (.int x2), .val (.int x3)] [] := by first | (simp [entryFrame, mkF, argsToLocals, Value.category]; done) | rfl
set_option maxRecDepth 65536 in
set_option maxHeartbeats 40000000 in
theorem rmI4 (l : Launch) (Z : State) (a0 : Array Value) (hw : ∀ d ∈ tables_1, d.before a0 Z = true) (ws : List Jvm.Cond) (t : Addr) (kb : ClassId) (mm : Int32) (vs : List Value) (h0 : Heap) (n0 : Nat) (O0 : Old Z n0 h0) (K : Arv Z h0 t kb .byte (8 : Int32) vs (.int (0 : Int32))) (hic : IcOK vs mm) :
    MetFree l y14 (head1 (Jvm.Cond.code y14 jdk_43_method_22_code 4 (some .int) :: ws) ({ frames := 1, cells := 0, slots := 0, locals := 17 } : Room)) (fun a_ U => a_ = #[(.ref t), (.int 46), (.int 0), (.int 8)] ∧ Z.Warmed39 U.vm ∧ U.heap = h0) (fun _ _ _ _ _ => True) (fun _ U o U' => ∃ v L, o = .returned v ∧ QP (.int mm) h0 n0 v U'.heap L ∧ FrameEnd U o U' L 0 0) := by
  refine MetFree.of_bodySF (plainFor_of_name pn_1) hisR ?_
  intro p e s m args below meth c s₁ Bd hml0 hP hK
  obtain ⟨rfl, hZ, hh⟩ := hP
  have hx := Bd.exec
  have hby := Bd.bytes
  have hml : c.maxLocals = 4 := hml0
  have hown : s.vm.findClass "java/lang/StringLatin1" = some m.cls := findClass_of_methodNamed Bd.named
  have hnm := (name_of_methodNamed Bd.named Bd.method).1
  have X0 : Stand p l e ({ frames := 1, cells := 0, slots := 0, locals := 17 } : Room) s m #[(.ref t), (.int 46), (.int 0), (.int 8)] below meth c s₁ [] 0 0 := Stand.of_body Bd
  have e0 : s₁.heap = h0 := by rw [← hh, Bd.state]; rfl
  have N0 := Fr.nil n0
  have pre0 : ∀ tg, Steps p.tables e below (s₁.setTop (mkF m 0 #[.val (.ref t), .val (.int 46), .val (.int 0), .val (.int 8)] [])) tg → Steps p.tables e below (s₁.setTop (entryFrame m #[(.ref t), (.int 46), (.int 0), (.int 8)] 4)) tg := fun tg kq => castTop (ef_RIII_4 m t (46 : Int32) (0 : Int32) (8 : Int32)) kq
  obtain ⟨_, _, ⟨T101, L101, k101, n101⟩, -, X101, ⟨Lc101, hQ101, l101, y101, z101⟩, st101⟩ := Jvm.LawKit.callS X0 hx (y := y15) hown (mvT hZ (wi hw 67 rfl)) (mvT hZ (wi hw 68 rfl)) (mvT hZ (wi hw 65 rfl)) (mvT hZ (wi hw 69 rfl)) (by decide) (backOf (W := 0) (rmC l Z a0 hw [] h0 n0 O0) hZ (wi hw 69 rfl) (wi hw 65 rfl) (by decide) (by decide)) (g := (mkF m 1 #[.val (.ref t), .val (.int 46), .val (.int 0), .val (.int 8)] [(.int 46)])) rfl (by rw [hml]; rfl) (argsL := [(.int 46)]) (rest := []) (lenOf pd_1 rfl) rfl (by show 2 * 0 + _ ≤ _; exact Nat.le_of_eq rfl) (hb hby d14_1) (fun _ _ => ⟨rfl, e0, (by decide : 0 + 0 ≤ _), (by decide : 0 + 0 ≤ _)⟩)
  dsimp only [Pt.U, Pt.locs, Pt.cells, Pt.slots] at X101 l101 y101 z101 st101 hQ101
  subst l101 y101 z101
  obtain ⟨rfl, N101q, hh101⟩ := hQ101
  have e101 : T101.heap = h0 := hh101
  have N101 := Fr.app N0 N101q
  obtain ⟨_, _, ⟨T102, L102, k102, n102⟩, -, X102, ⟨Lc102, hQ102, l102, y102, z102⟩, st102⟩ := Jvm.LawKit.callS X101 hx (y := y16) hown (mvT hZ (wi hw 70 rfl)) (mvT hZ (wi hw 71 rfl)) (mvT hZ (wi hw 72 rfl)) (mvT hZ (wi hw 73 rfl)) (by decide) (backOf (W := 0) (rmX l Z a0 hw [] h0 n0 O0) hZ (wi hw 73 rfl) (wi hw 72 rfl) (by decide) (by decide)) (g := (mkF m 11 #[.val (.ref t), .val (.int 46), .val (.int 0), .val (.int 8)] [(.int 0), (.int 0)])) rfl (by rw [hml]; rfl) (argsL := [(.int 0), (.int 0)]) (rest := []) (lenOf pd_2 rfl) rfl (by show 2 * 0 + _ ≤ _; exact Nat.le_of_eq rfl) (hb hby d14_11) (fun _ _ => ⟨rfl, e101, (by decide : 0 + 0 ≤ _), (by decide : 0 + 0 ≤ _)⟩)
  dsimp only [Pt.U, Pt.locs, Pt.cells, Pt.slots] at X102 l102 y102 z102 st102 hQ102
  subst l102 y102 z102
  obtain ⟨rfl, N102q, hh102⟩ := hQ102
  have e102 : T102.heap = h0 := hh102
  have N102 := Fr.app N101 N102q
  obtain ⟨cl_t_19, Ar_t_19, -, S_t_19, N_t_19, -, -⟩ := id (K)
  obtain ⟨_, _, ⟨T103, L103, k103, n103⟩, -, X103, ⟨Lc103, hQ103, l103, y103, z103⟩, st103⟩ := Jvm.LawKit.callS X102 hx (y := y17) hown (mvT hZ (wi hw 74 rfl)) (mvT hZ (wi hw 75 rfl)) (mvT hZ (wi hw 72 rfl)) (mvT hZ (wi hw 76 rfl)) (by decide) (backOf (W := 0) (rmN l Z a0 hw [] h0 n0 O0) hZ (wi hw 76 rfl) (wi hw 72 rfl) (by decide) (by decide)) (g := (mkF m 18 #[.val (.ref t), .val (.int 46), .val (.int 0), .val (.int 8)] [(.int 8), (.int 8)])) rfl (by rw [hml]; rfl) (argsL := [(.int 8), (.int 8)]) (rest := []) (lenOf pd_2 rfl) rfl (by show 2 * 0 + _ ≤ _; exact Nat.le_of_eq rfl) (hb hby d14_18) (fun _ _ => ⟨rfl, e102, (by decide : 0 + 0 ≤ _), (by decide : 0 + 0 ≤ _)⟩)
  dsimp only [Pt.U, Pt.locs, Pt.cells, Pt.slots] at X103 l103 y103 z103 st103 hQ103
  subst l103 y103 z103
  obtain ⟨rfl, N103q, hh103⟩ := hQ103
  have e103 : T103.heap = h0 := hh103
  have N103 := Fr.app N102 N103q
  obtain ⟨_, _, ⟨T104, L104, k104, n104⟩, -, X104, ⟨Lc104, hQ104, l104, y104, z104⟩, st104⟩ := Jvm.LawKit.callS X103 hx (y := y18) hown (mvT hZ (wi hw 77 rfl)) (mvT hZ (wi hw 78 rfl)) (mvT hZ (wi hw 65 rfl)) (mvT hZ (wi hw 79 rfl)) (by decide) (backOf (W := 0) (rmIC l Z a0 hw [] t kb mm vs h0 n0 O0 K hic) hZ (wi hw 79 rfl) (wi hw 65 rfl) (by decide) (by decide)) (g := (mkF m 33 #[.val (.ref t), .val (.int 46), .val (.int 0), .val (.int 8)] [(.int 8), (.int 0), (.int 46), (.ref t)])) rfl (by rw [hml]; rfl) (argsL := [(.ref t), (.int 46), (.int 0), (.int 8)]) (rest := []) (lenOf pd_3 rfl) rfl (by show 2 * 0 + _ ≤ _; exact Nat.le_of_eq rfl) (hb hby d14_33) (fun _ _ => ⟨rfl, e103, (by decide : 0 + 0 ≤ _), (by decide : 0 + 0 ≤ _)⟩)
  dsimp only [Pt.U, Pt.locs, Pt.cells, Pt.slots] at X104 l104 y104 z104 st104 hQ104
  subst l104 y104 z104
  obtain ⟨rfl, N104q, hh104⟩ := hQ104
  have e104 : T104.heap = h0 := hh104
  have N104 := Fr.app N103 N104q
  obtain ⟨fs, hr, hrun, hended, hW, hsame⟩ := X104.leave (v := some (.int mm)) (fun h => by rw [Bd.returns] at h; cases h)
  refine ⟨_, _, pre0 _ ?_, hrun, hended, _, _, rfl, ?_, ⟨_, rfl⟩, hW, hsame.mono (by decide) (by decide)⟩
  · show Steps p.tables e below (s₁.setTop (mkF m 0 #[.val (.ref t), .val (.int 46), .val (.int 0), .val (.int 8)] [])) _
    refine XS.iloadN X0.here hx rfl (hb hby d14_0) rfl ?_
    show Steps p.tables e below (s₁.setTop (mkF m 1 #[.val (.ref t), .val (.int 46), .val (.int 0), .val (.int 8)] [(.int 46)])) _
    refine st101 _ ?_
    show Steps p.tables e below (T101.setTop (mkF m 4 #[.val (.ref t), .val (.int 46), .val (.int 0), .val (.int 8)] [(.int 1)])) _
    refine XS.ifYes X101.here hx rfl (pc0 := 4) (pc' := 9) rfl (hb hby d14_4) rfl ((if0 _ _).trans (feq (by decide : ¬ ((1 : Int32) = (0 : Int32)))).2) (by decide) (by decide) ?_
    refine XS.iloadN X101.here hx rfl (hb hby d14_9) rfl ?_
    refine XS.iconst X101.here hx rfl (hb hby d14_10) ?_
    show Steps p.tables e below (T101.setTop (mkF m 11 #[.val (.ref t), .val (.int 46), .val (.int 0), .val (.int 8)] [(.int 0), (.int 0)])) _
    refine st102 _ ?_
    show Steps p.tables e below (T102.setTop (mkF m 14 #[.val (.ref t), .val (.int 46), .val (.int 0), .val (.int 8)] [(.int 0)])) _
    refine XS.istoreN X102.here hx rfl (hb hby d14_14) rfl (l' := #[.val (.ref t), .val (.int 46), .val (.int 0), .val (.int 8)]) rfl ?_
    refine XS.iloadN X102.here hx rfl (hb hby d14_15) rfl ?_
    refine XS.aloadN X102.here hx rfl (hb hby d14_16) rfl rfl ?_
    show Steps p.tables e below (T102.setTop (mkF m 17 #[.val (.ref t), .val (.int 46), .val (.int 0), .val (.int 8)] [(.ref t), (.int 8)])) _
    refine X102.arraylength hx (by rw [e102]; exact Ar_t_19.1) (State.isArrayOf_alike hZ.alike Ar_t_19.2.1) (g := (mkF m 17 #[.val (.ref t), .val (.int 46), .val (.int 0), .val (.int 8)] [(.ref t), (.int 8)])) rfl rfl (hb hby d14_17) _ ?_
    rw [len_of S_t_19 N_t_19]
    show Steps p.tables e below (T102.setTop (mkF m 18 #[.val (.ref t), .val (.int 46), .val (.int 0), .val (.int 8)] [(.int 8), (.int 8)])) _
    refine st103 _ ?_
    show Steps p.tables e below (T103.setTop (mkF m 21 #[.val (.ref t), .val (.int 46), .val (.int 0), .val (.int 8)] [(.int 8)])) _
    refine XS.istoreN X103.here hx rfl (hb hby d14_21) rfl (l' := #[.val (.ref t), .val (.int 46), .val (.int 0), .val (.int 8)]) rfl ?_
    refine XS.iloadN X103.here hx rfl (hb hby d14_22) rfl ?_
    refine XS.iloadN X103.here hx rfl (hb hby d14_23) rfl ?_
    show Steps p.tables e below (T103.setTop (mkF m 24 #[.val (.ref t), .val (.int 46), .val (.int 0), .val (.int 8)] [(.int 8), (.int 0)])) _
    refine XS.icmpYes X103.here hx rfl (pc0 := 24) (pc' := 29) rfl (hb hby d14_24) rfl (tlt (by decide : (0 : Int32) < (8 : Int32))).1 (by decide) (by decide) ?_
    refine XS.aloadN X103.here hx rfl (hb hby d14_29) rfl rfl ?_
    refine XS.iloadN X103.here hx rfl (hb hby d14_30) rfl ?_
    show Steps p.tables e below (T103.setTop (mkF m 31 #[.val (.ref t), .val (.int 46), .val (.int 0), .val (.int 8)] [(.int 46), (.ref t)])) _
    refine XS.iloadN X103.here hx rfl (hb hby d14_31) rfl ?_
    refine XS.iloadN X103.here hx rfl (hb hby d14_32) rfl ?_
    show Steps p.tables e below (T103.setTop (mkF m 33 #[.val (.ref t), .val (.int 46), .val (.int 0), .val (.int 8)] [(.int 8), (.int 0), (.int 46), (.ref t)])) _
    refine st104 _ ?_
    show Steps p.tables e below (T104.setTop (mkF m 36 #[.val (.ref t), .val (.int 46), .val (.int 0), .val (.int 8)] [(.int mm)])) _
    exact retI X104 hx Bd.returns (hb hby d14_36) hr
  · show QP (.int mm) h0 n0 _ T104.heap _
    rw [e104]
    exact ⟨rfl, N104, rfl⟩
theorem d10_0 : decode jdk_42_method_80_code 0 = .ok (.aload_n 0, 1) := by decide +kernel
theorem d10_1 : decode jdk_42_method_80_code 1 = .ok (.invokevirtual 492, 3) := by decide +kernel
theorem pd_4 : parseMethodDescriptor "()Z" = some ⟨[], some .boolean⟩ := by decide +kernel
theorem d10_4 : decode jdk_42_method_80_code 4 = .ok (.ifCond .eq 19, 3) := by decide +kernel
theorem d10_7 : decode jdk_42_method_80_code 7 = .ok (.aload_n 0, 1) := by decide +kernel
theorem d10_8 : decode jdk_42_method_80_code 8 = .ok (.getfield 9, 3) := by decide +kernel
theorem d10_11 : decode jdk_42_method_80_code 11 = .ok (.iload_n 1, 1) := by decide +kernel
theorem d10_12 : decode jdk_42_method_80_code 12 = .ok (.iload_n 2, 1) := by decide +kernel
theorem d10_13 : decode jdk_42_method_80_code 13 = .ok (.aload_n 0, 1) := by decide +kernel
theorem d10_14 : decode jdk_42_method_80_code 14 = .ok (.invokevirtual 505, 3) := by decide +kernel
theorem own_w_lenW : ∀ d ∈ StrChars.Road.wordsLen, d ∈ tables_1 := by decide +kernel
theorem pd_5 : parseMethodDescriptor "()I" = some ⟨[], some .int⟩ := by decide +kernel
abbrev y12 : MethodName := ⟨"java/lang/String", "length", "()I"⟩
theorem d10_17 : decode jdk_42_method_80_code 17 = .ok (.invokestatic 637, 3) := by decide +kernel
theorem d10_20 : decode jdk_42_method_80_code 20 = .ok (.goto 16, 3) := by decide +kernel
theorem d10_36 : decode jdk_42_method_80_code 36 = .ok (.ireturn, 1) := by decide +kernel
abbrev y10 : MethodName := ⟨"java/lang/String", "indexOf", "(II)I"⟩
theorem ef_RII_3 (m : MethodId) (x0 : Addr) (x1 : Int32) (x2 : Int32) : entryFrame m #[(.ref x0), (.int x1), (.int x2)] 3 = mkF m 0 #[.val (.ref x0), .val (.int x1), .val (.int x2)] [] := by first | (simp [entryFrame, mkF, argsToLocals, Value.category]; done) | rfl
set_option maxRecDepth 65536 in
set_option maxHeartbeats 40000000 in
theorem rmI2 (l : Launch) (Z : State) (a0 : Array Value) (hw : ∀ d ∈ tables_1, d.before a0 Z = true) (ws : List Jvm.Cond) (G1 : Int32) (x : Addr) (mm : Int32) (cs : List Int32) (h0 : Heap) (n0 : Nat) (O0 : Old Z n0 h0) (S_CS : Sta Z Z.heap "java/lang/String" "COMPACT_STRINGS" "Z" (.int G1)) (hG1 : ¬ (G1 = (0 : Int32))) (T : Str Z h0 x cs) (e8 : Int32.ofNat cs.length = (8 : Int32)) (hic : IcOK (cs.map (fun c => Value.int (StrChars.lo8 c))) mm) :
    MetFree l y10 (head1 (Jvm.Cond.code y10 jdk_42_method_80_code 3 (some .int) :: ws) ({ frames := 2, cells := 0, slots := 0, locals := 32 } : Room)) (fun a_ U => a_ = #[(.ref x), (.int 46), (.int 0)] ∧ Z.Warmed39 U.vm ∧ U.heap = h0) (fun _ _ _ _ _ => True) (fun _ U o U' => ∃ v L, o = .returned v ∧ QP (.int mm) h0 n0 v U'.heap L ∧ FrameEnd U o U' L 0 0) := by
  refine MetFree.of_bodySF (plainFor_of_name pn_2) hisR ?_
  intro p e s m args below meth c s₁ Bd hml0 hP hK
  obtain ⟨rfl, hZ, hh⟩ := hP
  have hx := Bd.exec
  have hby := Bd.bytes
  have hml : c.maxLocals = 3 := hml0
  have hown : s.vm.findClass "java/lang/String" = some m.cls := findClass_of_methodNamed Bd.named
  have hnm := (name_of_methodNamed Bd.named Bd.method).1
  have X0 : Stand p l e ({ frames := 2, cells := 0, slots := 0, locals := 32 } : Room) s m #[(.ref x), (.int 46), (.int 0)] below meth c s₁ [] 0 0 := Stand.of_body Bd
  have e0 : s₁.heap = h0 := by rw [← hh, Bd.state]; rfl
  have N0 := Fr.nil n0
  have pre0 : ∀ tg, Steps p.tables e below (s₁.setTop (mkF m 0 #[.val (.ref x), .val (.int 46), .val (.int 0)] [])) tg → Steps p.tables e below (s₁.setTop (entryFrame m #[(.ref x), (.int 46), (.int 0)] 3)) tg := fun tg kq => castTop (ef_RII_3 m x (46 : Int32) (0 : Int32)) kq
  obtain ⟨tx, kbx, Nx, vsx, sEx, sVx, sCx, sKx, scdx, shpx, shlx⟩ := id T
  obtain ⟨rfl, rfl⟩ := own_cod scdx
  rw [e8] at sKx scdx
  obtain ⟨cq101, kq101, q101a, q101b, q101c⟩ := isOf hZ e0 sEx
  obtain ⟨_, _, ⟨T101, L101, k101, n101⟩, -, X101, ⟨Lc101, hQ101, l101, y101, z101⟩, st101⟩ := X0.virtualBack hx (y := y11) (z := y11) hown (mvT hZ (wi hw 48 rfl)) (mvT hZ (wi hw 49 rfl)) (notFace_of_selects (args := #[]) (mvT hZ (wi hw 51 rfl))) (mvT hZ (wi hw 51 rfl)) (mvT hZ (wi hw 50 rfl)) (by decide) (backOf (W := 0) (rmL l Z a0 hw [] G1 x h0 n0 O0 S_CS hG1 sCx) hZ (wi hw 52 rfl) (wi hw 7 rfl) (by decide) (by decide)) q101a q101c (g := (mkF m 1 #[.val (.ref x), .val (.int 46), .val (.int 0)] [(.ref x)])) rfl (by rw [hml]; rfl) (Steps.refl _) (argsL := []) (rest := []) (lenOf pd_4 rfl) rfl (by show 2 * 0 + _ ≤ _; exact Nat.le_of_eq rfl) (hb hby d10_1) (fun _ _ => ⟨rfl, e0, (by decide : 0 + 0 ≤ _), (by decide : 0 + 0 ≤ _)⟩)
  dsimp only [Pt.U, Pt.locs, Pt.cells, Pt.slots] at X101 l101 y101 z101 st101 hQ101
  subst l101 y101 z101
  obtain ⟨rfl, N101q, hh101⟩ := hQ101
  have e101 : T101.heap = h0 := hh101
  have N101 := Fr.app N0 N101q
  obtain ⟨T102, X102, e102, st102⟩ := getF X101 hx hZ hown (host := "") (Or.inl (wi hw 32 rfl)) Via.refl e101 sVx (g := (mkF m 8 #[.val (.ref x), .val (.int 46), .val (.int 0)] [(.ref x)])) rfl rfl (hb hby d10_8)
  obtain ⟨cq103, kq103, q103a, q103b, q103c⟩ := isOf hZ e102 sEx
  obtain ⟨_, _, ⟨T103, L103, k103, n103⟩, -, X103, ⟨Lc103, hQ103, l103, y103, z103⟩, st103⟩ := X102.virtualBack hx (y := y12) (z := y12) hown (mvT hZ (wi hw 53 rfl)) (mvT hZ (wi hw 54 rfl)) (notFace_of_selects (args := #[]) (mvT hZ (wi hw 56 rfl))) (mvT hZ (wi hw 56 rfl)) (mvT hZ (wi hw 55 rfl)) (by decide) (StrChars.Road.lenW (W := 3) hZ (fun d hd => hw d (own_w_lenW d hd)) (kI := 4) (wi hw 6 rfl) sEx sVx sCx sKx scdx (own_up _ shpx) (S_CS.ext O0.2) hG1 shlx (by decide) (by decide)) q103a q103c (g := (mkF m 14 #[.val (.ref x), .val (.int 46), .val (.int 0)] [(.ref x), (.int 0), (.int 46), (.ref tx)])) rfl (by rw [hml]; rfl) (Steps.refl _) (argsL := []) (rest := [(.int 0), (.int 46), (.ref tx)]) (lenOf pd_5 rfl) rfl (by show 2 * 0 + _ ≤ _; exact Nat.le_of_eq rfl) (hb hby d10_14) (fun _ _ => ⟨rfl, e102, (by decide : 0 + 0 ≤ _), (by decide : 0 + 0 ≤ _)⟩)
  dsimp only [Pt.U, Pt.locs, Pt.cells, Pt.slots] at X103 l103 y103 z103 st103 hQ103
  subst l103 y103 z103
  rw [e8] at hQ103
  obtain ⟨rfl, rfl, hh103⟩ := hQ103
  have N103q : Fr n0 ([] : List Loc) := Fr.nil n0
  have e103 : T103.heap = h0 := hh103
  have N103 := Fr.app N101 N103q
  obtain ⟨_, _, ⟨T104, L104, k104, n104⟩, -, X104, ⟨Lc104, hQ104, l104, y104, z104⟩, st104⟩ := Jvm.LawKit.callS X103 hx (y := y14) hown (mvT hZ (wi hw 63 rfl)) (mvT hZ (wi hw 64 rfl)) (mvT hZ (wi hw 65 rfl)) (mvT hZ (wi hw 66 rfl)) (by decide) (backOf (W := 0) (rmI4 l Z a0 hw [] tx kbx mm (cs.map (fun c => Value.int (StrChars.lo8 c))) h0 n0 O0 sKx hic) hZ (wi hw 66 rfl) (wi hw 65 rfl) (by decide) (by decide)) (g := (mkF m 17 #[.val (.ref x), .val (.int 46), .val (.int 0)] [(.int 8), (.int 0), (.int 46), (.ref tx)])) rfl (by rw [hml]; rfl) (argsL := [(.ref tx), (.int 46), (.int 0), (.int 8)]) (rest := []) (lenOf pd_3 rfl) rfl (by show 2 * 0 + _ ≤ _; exact Nat.le_of_eq rfl) (hb hby d10_17) (fun _ _ => ⟨rfl, e103, (by decide : 0 + 0 ≤ _), (by decide : 0 + 0 ≤ _)⟩)
  dsimp only [Pt.U, Pt.locs, Pt.cells, Pt.slots] at X104 l104 y104 z104 st104 hQ104
  subst l104 y104 z104
  obtain ⟨rfl, N104q, hh104⟩ := hQ104
  have e104 : T104.heap = h0 := hh104
  have N104 := Fr.app N103 N104q
  obtain ⟨fs, hr, hrun, hended, hW, hsame⟩ := X104.leave (v := some (.int mm)) (fun h => by rw [Bd.returns] at h; cases h)
  refine ⟨_, _, pre0 _ ?_, hrun, hended, _, _, rfl, ?_, ⟨_, rfl⟩, hW, hsame.mono (by decide) (by decide)⟩
  · show Steps p.tables e below (s₁.setTop (mkF m 0 #[.val (.ref x), .val (.int 46), .val (.int 0)] [])) _
    refine XS.aloadN X0.here hx rfl (hb hby d10_0) rfl rfl ?_
    show Steps p.tables e below (s₁.setTop (mkF m 1 #[.val (.ref x), .val (.int 46), .val (.int 0)] [(.ref x)])) _
    refine st101.trans ?_
    show Steps p.tables e below (T101.setTop (mkF m 4 #[.val (.ref x), .val (.int 46), .val (.int 0)] [(.int 1)])) _
    refine XS.ifNo X101.here hx rfl (hb hby d10_4) rfl ((if0 _ _).trans (feq (by decide : ¬ ((1 : Int32) = (0 : Int32)))).1) ?_
    refine XS.aloadN X101.here hx rfl (hb hby d10_7) rfl rfl ?_
    show Steps p.tables e below (T101.setTop (mkF m 8 #[.val (.ref x), .val (.int 46), .val (.int 0)] [(.ref x)])) _
    refine st102 _ ?_
    show Steps p.tables e below (T102.setTop (mkF m 11 #[.val (.ref x), .val (.int 46), .val (.int 0)] [(.ref tx)])) _
    refine XS.iloadN X102.here hx rfl (hb hby d10_11) rfl ?_
    refine XS.iloadN X102.here hx rfl (hb hby d10_12) rfl ?_
    refine XS.aloadN X102.here hx rfl (hb hby d10_13) rfl rfl ?_
    show Steps p.tables e below (T102.setTop (mkF m 14 #[.val (.ref x), .val (.int 46), .val (.int 0)] [(.ref x), (.int 0), (.int 46), (.ref tx)])) _
    refine st103.trans ?_
    show Steps p.tables e below (T103.setTop (mkF m 17 #[.val (.ref x), .val (.int 46), .val (.int 0)] [(.int 8), (.int 0), (.int 46), (.ref tx)])) _
    refine st104 _ ?_
    show Steps p.tables e below (T104.setTop (mkF m 20 #[.val (.ref x), .val (.int 46), .val (.int 0)] [(.int mm)])) _
    refine XS.goto X104.here hx rfl (pc0 := 20) (pc' := 36) rfl (hb hby d10_20) (by decide) (by decide) ?_
    show Steps p.tables e below (T104.setTop (mkF m 36 #[.val (.ref x), .val (.int 46), .val (.int 0)] [(.int mm)])) _
    exact retI X104 hx Bd.returns (hb hby d10_36) hr
  · show QP (.int mm) h0 n0 _ T104.heap _
    rw [e104]
    exact ⟨rfl, N104, rfl⟩
theorem d9_0 : decode jdk_42_method_79_code 0 = .ok (.aload_n 0, 1) := by decide +kernel
theorem d9_1 : decode jdk_42_method_79_code 1 = .ok (.iload_n 1, 1) := by decide +kernel
theorem d9_2 : decode jdk_42_method_79_code 2 = .ok (.iconst 0, 1) := by decide +kernel
theorem d9_3 : decode jdk_42_method_79_code 3 = .ok (.invokevirtual 633, 3) := by decide +kernel
theorem d9_6 : decode jdk_42_method_79_code 6 = .ok (.ireturn, 1) := by decide +kernel
abbrev y9 : MethodName := ⟨"java/lang/String", "indexOf", "(I)I"⟩
theorem ef_RI_2 (m : MethodId) (x0 : Addr) (x1 : Int32) : entryFrame m #[(.ref x0), (.int x1)] 2 = mkF m 0 #[.val (.ref x0), .val (.int x1)] [] := by first | (simp [entryFrame, mkF, argsToLocals, Value.category]; done) | rfl
set_option maxRecDepth 65536 in
set_option maxHeartbeats 40000000 in
theorem rmI1 (l : Launch) (Z : State) (a0 : Array Value) (hw : ∀ d ∈ tables_1, d.before a0 Z = true) (ws : List Jvm.Cond) (G1 : Int32) (x : Addr) (mm : Int32) (cs : List Int32) (h0 : Heap) (n0 : Nat) (O0 : Old Z n0 h0) (S_CS : Sta Z Z.heap "java/lang/String" "COMPACT_STRINGS" "Z" (.int G1)) (hG1 : ¬ (G1 = (0 : Int32))) (T : Str Z h0 x cs) (e8 : Int32.ofNat cs.length = (8 : Int32)) (hic : IcOK (cs.map (fun c => Value.int (StrChars.lo8 c))) mm) :
    MetFree l y9 (head1 (Jvm.Cond.code y9 jdk_42_method_79_code 2 (some .int) :: ws) ({ frames := 3, cells := 0, slots := 0, locals := 46 } : Room)) (fun a_ U => a_ = #[(.ref x), (.int 46)] ∧ Z.Warmed39 U.vm ∧ U.heap = h0) (fun _ _ _ _ _ => True) (fun _ U o U' => ∃ v L, o = .returned v ∧ QP (.int mm) h0 n0 v U'.heap L ∧ FrameEnd U o U' L 0 0) := by
  refine MetFree.of_bodySF (plainFor_of_name pn_2) hisR ?_
  intro p e s m args below meth c s₁ Bd hml0 hP hK
  obtain ⟨rfl, hZ, hh⟩ := hP
  have hx := Bd.exec
  have hby := Bd.bytes
  have hml : c.maxLocals = 2 := hml0
  have hown : s.vm.findClass "java/lang/String" = some m.cls := findClass_of_methodNamed Bd.named
  have hnm := (name_of_methodNamed Bd.named Bd.method).1
  have X0 : Stand p l e ({ frames := 3, cells := 0, slots := 0, locals := 46 } : Room) s m #[(.ref x), (.int 46)] below meth c s₁ [] 0 0 := Stand.of_body Bd
  have e0 : s₁.heap = h0 := by rw [← hh, Bd.state]; rfl
  have N0 := Fr.nil n0
  have pre0 : ∀ tg, Steps p.tables e below (s₁.setTop (mkF m 0 #[.val (.ref x), .val (.int 46)] [])) tg → Steps p.tables e below (s₁.setTop (entryFrame m #[(.ref x), (.int 46)] 2)) tg := fun tg kq => castTop (ef_RI_2 m x (46 : Int32)) kq
  have sE := T.choose_spec.choose_spec.choose_spec.choose_spec.1
  obtain ⟨cq101, kq101, q101a, q101b, q101c⟩ := isOf hZ e0 sE
  obtain ⟨_, _, ⟨T101, L101, k101, n101⟩, -, X101, ⟨Lc101, hQ101, l101, y101, z101⟩, st101⟩ := X0.virtualBack hx (y := y10) (z := y10) hown (mvT hZ (wi hw 43 rfl)) (mvT hZ (wi hw 44 rfl)) (notFace_of_selects (args := #[]) (mvT hZ (wi hw 46 rfl))) (mvT hZ (wi hw 46 rfl)) (mvT hZ (wi hw 45 rfl)) (by decide) (backOf (W := 0) (rmI2 l Z a0 hw [] G1 x mm cs h0 n0 O0 S_CS hG1 T e8 hic) hZ (wi hw 47 rfl) (wi hw 7 rfl) (by decide) (by decide)) q101a q101c (g := (mkF m 3 #[.val (.ref x), .val (.int 46)] [(.int 0), (.int 46), (.ref x)])) rfl (by rw [hml]; rfl) (Steps.refl _) (argsL := [(.int 46), (.int 0)]) (rest := []) (lenOf pd_2 rfl) rfl (by show 2 * 0 + _ ≤ _; exact Nat.le_of_eq rfl) (hb hby d9_3) (fun _ _ => ⟨rfl, e0, (by decide : 0 + 0 ≤ _), (by decide : 0 + 0 ≤ _)⟩)
  dsimp only [Pt.U, Pt.locs, Pt.cells, Pt.slots] at X101 l101 y101 z101 st101 hQ101
  subst l101 y101 z101
  obtain ⟨rfl, N101q, hh101⟩ := hQ101
  have e101 : T101.heap = h0 := hh101
  have N101 := Fr.app N0 N101q
  obtain ⟨fs, hr, hrun, hended, hW, hsame⟩ := X101.leave (v := some (.int mm)) (fun h => by rw [Bd.returns] at h; cases h)
  refine ⟨_, _, pre0 _ ?_, hrun, hended, _, _, rfl, ?_, ⟨_, rfl⟩, hW, hsame.mono (by decide) (by decide)⟩
  · show Steps p.tables e below (s₁.setTop (mkF m 0 #[.val (.ref x), .val (.int 46)] [])) _
    refine XS.aloadN X0.here hx rfl (hb hby d9_0) rfl rfl ?_
    refine XS.iloadN X0.here hx rfl (hb hby d9_1) rfl ?_
    refine XS.iconst X0.here hx rfl (hb hby d9_2) ?_
    show Steps p.tables e below (s₁.setTop (mkF m 3 #[.val (.ref x), .val (.int 46)] [(.int 0), (.int 46), (.ref x)])) _
    refine st101.trans ?_
    show Steps p.tables e below (T101.setTop (mkF m 6 #[.val (.ref x), .val (.int 46)] [(.int mm)])) _
    exact retI X101 hx Bd.returns (hb hby d9_6) hr
  · show QP (.int mm) h0 n0 _ T101.heap _
    rw [e101]
    exact ⟨rfl, N101, rfl⟩
theorem d24_0 : decode jdk_65_method_133_code 0 = .ok (.iload_n 1, 1) := by decide +kernel
theorem d24_1 : decode jdk_65_method_133_code 1 = .ok (.iload_n 2, 1) := by decide +kernel
theorem d24_2 : decode jdk_65_method_133_code 2 = .ok (.invokestatic 343, 3) := by decide +kernel
theorem pd_6 : parseMethodDescriptor "(II)V" = some ⟨[.int, .int], none⟩ := by decide +kernel
theorem d24_5 : decode jdk_65_method_133_code 5 = .ok (.iload_n 2, 1) := by decide +kernel
theorem d24_6 : decode jdk_65_method_133_code 6 = .ok (.iload_n 1, 1) := by decide +kernel
theorem d24_7 : decode jdk_65_method_133_code 7 = .ok (.isub, 1) := by decide +kernel
theorem d24_8 : decode jdk_65_method_133_code 8 = .ok (.istore_n 3, 1) := by decide +kernel
theorem d24_9 : decode jdk_65_method_133_code 9 = .ok (.iload_n 3, 1) := by decide +kernel
theorem d24_10 : decode jdk_65_method_133_code 10 = .ok (.newarray .byte, 2) := by decide +kernel
theorem d24_12 : decode jdk_65_method_133_code 12 = .ok (.astore 4, 2) := by decide +kernel
theorem d24_14 : decode jdk_65_method_133_code 14 = .ok (.aload_n 0, 1) := by decide +kernel
theorem d24_15 : decode jdk_65_method_133_code 15 = .ok (.iload_n 1, 1) := by decide +kernel
theorem d24_16 : decode jdk_65_method_133_code 16 = .ok (.aload 4, 2) := by decide +kernel
theorem d24_18 : decode jdk_65_method_133_code 18 = .ok (.iconst 0, 1) := by decide +kernel
theorem d24_19 : decode jdk_65_method_133_code 19 = .ok (.aload_n 0, 1) := by decide +kernel
theorem d24_20 : decode jdk_65_method_133_code 20 = .ok (.arraylength, 1) := by decide +kernel
theorem d24_21 : decode jdk_65_method_133_code 21 = .ok (.iload_n 1, 1) := by decide +kernel
theorem d24_22 : decode jdk_65_method_133_code 22 = .ok (.isub, 1) := by decide +kernel
theorem d24_23 : decode jdk_65_method_133_code 23 = .ok (.iload_n 3, 1) := by decide +kernel
theorem d24_24 : decode jdk_65_method_133_code 24 = .ok (.invokestatic 304, 3) := by decide +kernel
theorem d24_27 : decode jdk_65_method_133_code 27 = .ok (.invokestatic 150, 3) := by decide +kernel
theorem d24_30 : decode jdk_65_method_133_code 30 = .ok (.aload 4, 2) := by decide +kernel
theorem d24_32 : decode jdk_65_method_133_code 32 = .ok (.areturn, 1) := by decide +kernel
abbrev y24 : MethodName := ⟨"java/util/Arrays", "copyOfRangeByte", "([BII)[B"⟩
theorem ef_RII_5 (m : MethodId) (x0 : Addr) (x1 : Int32) (x2 : Int32) : entryFrame m #[(.ref x0), (.int x1), (.int x2)] 5 = mkF m 0 #[.val (.ref x0), .val (.int x1), .val (.int x2), .unset, .unset] [] := by first | (simp [entryFrame, mkF, argsToLocals, Value.category]; done) | rfl
set_option maxRecDepth 65536 in
set_option maxHeartbeats 40000000 in
theorem rmCB (l : Launch) (Z : State) (a0 : Array Value) (hw : ∀ d ∈ tables_1, d.before a0 Z = true) (ws : List Jvm.Cond) (t : Addr) (kb : ClassId) (mm : Int32) (m_ : Nat) (vs us : List Value) (h0 : Heap) (n0 : Nat) (O0 : Old Z n0 h0) (K : Arv Z h0 t kb .byte (8 : Int32) vs (.int (0 : Int32))) (hcr : CrOK mm m_ vs us) :
    MetFree l y24 (head1 (Jvm.Cond.code y24 jdk_65_method_133_code 5 (some (.array .byte)) :: ws) ({ frames := 1, cells := 1, slots := 8, locals := 40 } : Room)) (fun a_ U => a_ = #[(.ref t), (.int 0), (.int mm)] ∧ Z.Warmed39 U.vm ∧ U.heap = h0) (fun _ _ _ _ _ => True) (fun _ U o U' => ∃ v L, o = .returned v ∧ QB Z mm us h0 n0 v U'.heap L ∧ FrameEnd U o U' L 1 8) := by
  refine MetFree.of_bodySF (plainFor_of_name pn_3) hisR ?_
  intro p e s m args below meth c s₁ Bd hml0 hP hK
  obtain ⟨rfl, hZ, hh⟩ := hP
  have hx := Bd.exec
  have hby := Bd.bytes
  have hml : c.maxLocals = 5 := hml0
  have hown : s.vm.findClass "java/util/Arrays" = some m.cls := findClass_of_methodNamed Bd.named
  have hnm := (name_of_methodNamed Bd.named Bd.method).1
  have X0 : Stand p l e ({ frames := 1, cells := 1, slots := 8, locals := 40 } : Room) s m #[(.ref t), (.int 0), (.int mm)] below meth c s₁ [] 0 0 := Stand.of_body Bd
  have e0 : s₁.heap = h0 := by rw [← hh, Bd.state]; rfl
  have N0 := Fr.nil n0
  have pre0 : ∀ tg, Steps p.tables e below (s₁.setTop (mkF m 0 #[.val (.ref t), .val (.int 0), .val (.int mm), .unset, .unset] [])) tg → Steps p.tables e below (s₁.setTop (entryFrame m #[(.ref t), (.int 0), (.int mm)] 5)) tg := fun tg kq => castTop (ef_RII_5 m t (0 : Int32) mm) kq
  obtain ⟨q1, q2, q2', q3, q3', q4, q5, q6⟩ := id hcr
  obtain ⟨_, _, ⟨T101, L101, k101, n101⟩, -, X101, ⟨Lc101, hQ101, l101, y101, z101⟩, st101⟩ := Jvm.LawKit.callS X0 hx (y := y25) hown (mvT hZ (wi hw 104 rfl)) (mvT hZ (wi hw 105 rfl)) (mvT hZ (wi hw 99 rfl)) (mvT hZ (wi hw 106 rfl)) (by decide) (backOf (W := 0) (rmCL l Z a0 hw [] mm h0 n0 O0 q1) hZ (wi hw 106 rfl) (wi hw 99 rfl) (by decide) (by decide)) (g := (mkF m 2 #[.val (.ref t), .val (.int 0), .val (.int mm), .unset, .unset] [(.int mm), (.int 0)])) rfl (by rw [hml]; rfl) (argsL := [(.int 0), (.int mm)]) (rest := []) (lenOf pd_6 rfl) rfl (by show 2 * 0 + _ ≤ _; exact Nat.le_of_eq rfl) (hb hby d24_2) (fun _ _ => ⟨rfl, e0, (by decide : 0 + 0 ≤ _), (by decide : 0 + 0 ≤ _)⟩)
  dsimp only [Pt.U, Pt.locs, Pt.cells, Pt.slots] at X101 l101 y101 z101 st101 hQ101
  subst l101 y101 z101
  obtain ⟨rfl, N101q, hh101⟩ := hQ101
  have e101 : T101.heap = h0 := hh101
  have N101 := Fr.app N0 N101q
  obtain ⟨T102, h102, k102, X102, e102, E102, A102, st102⟩ := newP X101 hx hZ (wi hw 23 rfl) e101 (g := (mkF m 10 #[.val (.ref t), .val (.int 0), .val (.int mm), .val (.int mm), .unset] [(.int mm)])) rfl (hb hby d24_10) rfl q1 (cap := 8) (by rw [q4]; exact q5) (by decide) (by decide) (by decide)
  obtain ⟨b102, g102⟩ : ∃ z, z = h0.size := ⟨_, rfl⟩
  rw [← g102] at A102 st102
  have g_b102 : n0 ≤ b102 := Nat.le_trans (O0.1 ▸ O0.2.1) (Nat.le_of_eq g102.symm)
  have sz_b102 : h0.size ≤ b102 := Nat.le_trans (Nat.le_refl _) (Nat.le_of_eq g102.symm)
  have O102 := O0.ext E102
  have KK102 : Keep h0 h102 [] := (Keep.refl h0 []).ext E102
  have V_b102 : Arv Z h102 b102 k102 .byte mm (List.replicate m_ (.int (0 : Int32))) (.int 0) := (Arv.new A102 q1).pad (pad_rep [] (.int 0) m_)
  have fV_t_1_103 := (K.ext E102)
  obtain ⟨cl_t_32, Ar_t_32, -, S_t_32, N_t_32, -, -⟩ := id (fV_t_1_103)
  obtain ⟨_, _, ⟨T104, L104, k104, n104⟩, -, X104, ⟨Lc104, hQ104, l104, y104, z104⟩, st104⟩ := Jvm.LawKit.callS X102 hx (y := y17) hown (mvT hZ (wi hw 107 rfl)) (mvT hZ (wi hw 75 rfl)) (mvT hZ (wi hw 72 rfl)) (mvT hZ (wi hw 76 rfl)) (by decide) (backOf (W := 4) (rmNm l Z a0 hw [] mm h102 n0 O102 q2) hZ (wi hw 76 rfl) (wi hw 72 rfl) (by decide) (by decide)) (g := (mkF m 24 #[.val (.ref t), .val (.int 0), .val (.int mm), .val (.int mm), .val (.ref b102)] [(.int mm), (.int 8), (.int 0), (.ref b102), (.int 0), (.ref t)])) rfl (by rw [hml]; rfl) (argsL := [(.int 8), (.int mm)]) (rest := [(.int 0), (.ref b102), (.int 0), (.ref t)]) (lenOf pd_2 rfl) rfl (by show 2 * 0 + _ ≤ _; exact Nat.le_of_eq rfl) (hb hby d24_24) (fun _ _ => ⟨rfl, e102, (by decide : 1 + 0 ≤ _), (by decide : 8 + 0 ≤ _)⟩)
  dsimp only [Pt.U, Pt.locs, Pt.cells, Pt.slots] at X104 l104 y104 z104 st104 hQ104
  subst l104 y104 z104
  obtain ⟨rfl, N104q, hh104⟩ := hQ104
  have e104 : T104.heap = h102 := hh104
  have N104 := Fr.app N101 N104q
  obtain ⟨T105, h105, L105, X105, e105, Nc105, K105, Ac105, st105⟩ := cpA X104 hx hZ hown (wi hw 108 rfl) (wi hw 111 rfl) (wi hw 109 rfl) (wi hw 110 rfl) e104 fV_t_1_103 V_b102 (us := us) (Or.inl ⟨rfl, rfl⟩) (by decide) (by decide) q1 (by rw [own_z0, own_z8, Nat.zero_add, q4]; exact q5) (by rw [own_z0, Nat.zero_add]; exact Nat.le_refl _) (own_hus q4 q6) (by rw [own_z0, Nat.zero_add, q4, List.length_replicate]; exact Nat.le_refl _) N104 g_b102 (g := (mkF m 27 #[.val (.ref t), .val (.int 0), .val (.int mm), .val (.int mm), .val (.ref b102)] [(.int mm), (.int 0), (.ref b102), (.int 0), (.ref t)])) rfl (by rw [hml]; rfl) rfl (hb hby d24_27) (by decide) (W := 0) (by show 2 * 0 + _ ≤ _; exact Nat.le_of_eq rfl) (by decide)
  rw [own_z0, q4, own_rep] at Ac105
  have Vc105 : Arv Z h105 b102 k102 .byte mm us (.int 0) := Ac105
  have O105 := O102.keep K105 (allS g_b102 all0)
  have KK105 : Keep h0 h105 [] := KK102.trans K105 (allS (Or.inr sz_b102) all0)
  obtain ⟨fs, hr, hrun, hended, hW, hsame⟩ := X105.leave (v := some (.ref b102)) (fun h => by rw [Bd.returns] at h; cases h)
  refine ⟨_, _, pre0 _ ?_, hrun, hended, _, _, rfl, ?_, ⟨_, rfl⟩, hW, hsame.mono (by decide) (by decide)⟩
  · show Steps p.tables e below (s₁.setTop (mkF m 0 #[.val (.ref t), .val (.int 0), .val (.int mm), .unset, .unset] [])) _
    refine XS.iloadN X0.here hx rfl (hb hby d24_0) rfl ?_
    refine XS.iloadN X0.here hx rfl (hb hby d24_1) rfl ?_
    show Steps p.tables e below (s₁.setTop (mkF m 2 #[.val (.ref t), .val (.int 0), .val (.int mm), .unset, .unset] [(.int mm), (.int 0)])) _
    refine st101 _ ?_
    show Steps p.tables e below (T101.setTop (mkF m 5 #[.val (.ref t), .val (.int 0), .val (.int mm), .unset, .unset] [])) _
    refine XS.iloadN X101.here hx rfl (hb hby d24_5) rfl ?_
    refine XS.iloadN X101.here hx rfl (hb hby d24_6) rfl ?_
    show Steps p.tables e below (T101.setTop (mkF m 7 #[.val (.ref t), .val (.int 0), .val (.int mm), .unset, .unset] [(.int 0), (.int mm)])) _
    refine XS.isub X101.here hx rfl (hb hby d24_7) rfl ?_
    rw [show (mm - (0 : Int32)) = mm from own_sub0 mm]
    show Steps p.tables e below (T101.setTop (mkF m 8 #[.val (.ref t), .val (.int 0), .val (.int mm), .unset, .unset] [(.int mm)])) _
    refine XS.istoreN X101.here hx rfl (hb hby d24_8) rfl (l' := #[.val (.ref t), .val (.int 0), .val (.int mm), .val (.int mm), .unset]) rfl ?_
    refine XS.iloadN X101.here hx rfl (hb hby d24_9) rfl ?_
    show Steps p.tables e below (T101.setTop (mkF m 10 #[.val (.ref t), .val (.int 0), .val (.int mm), .val (.int mm), .unset] [(.int mm)])) _
    refine st102 _ ?_
    show Steps p.tables e below (T102.setTop (mkF m 12 #[.val (.ref t), .val (.int 0), .val (.int mm), .val (.int mm), .unset] [(.ref b102)])) _
    refine XS.astore X102.here hx rfl (hb hby d24_12) rfl rfl (l' := #[.val (.ref t), .val (.int 0), .val (.int mm), .val (.int mm), .val (.ref b102)]) rfl ?_
    refine XS.aloadN X102.here hx rfl (hb hby d24_14) rfl rfl ?_
    refine XS.iloadN X102.here hx rfl (hb hby d24_15) rfl ?_
    show Steps p.tables e below (T102.setTop (mkF m 16 #[.val (.ref t), .val (.int 0), .val (.int mm), .val (.int mm), .val (.ref b102)] [(.int 0), (.ref t)])) _
    refine XS.aload X102.here hx rfl (hb hby d24_16) rfl rfl ?_
    refine XS.iconst X102.here hx rfl (hb hby d24_18) ?_
    refine XS.aloadN X102.here hx rfl (hb hby d24_19) rfl rfl ?_
    show Steps p.tables e below (T102.setTop (mkF m 20 #[.val (.ref t), .val (.int 0), .val (.int mm), .val (.int mm), .val (.ref b102)] [(.ref t), (.int 0), (.ref b102), (.int 0), (.ref t)])) _
    refine X102.arraylength hx (by rw [e102]; exact Ar_t_32.1) (State.isArrayOf_alike hZ.alike Ar_t_32.2.1) (g := (mkF m 20 #[.val (.ref t), .val (.int 0), .val (.int mm), .val (.int mm), .val (.ref b102)] [(.ref t), (.int 0), (.ref b102), (.int 0), (.ref t)])) rfl rfl (hb hby d24_20) _ ?_
    rw [len_of S_t_32 N_t_32]
    show Steps p.tables e below (T102.setTop (mkF m 21 #[.val (.ref t), .val (.int 0), .val (.int mm), .val (.int mm), .val (.ref b102)] [(.int 8), (.int 0), (.ref b102), (.int 0), (.ref t)])) _
    refine XS.iloadN X102.here hx rfl (hb hby d24_21) rfl ?_
    show Steps p.tables e below (T102.setTop (mkF m 22 #[.val (.ref t), .val (.int 0), .val (.int mm), .val (.int mm), .val (.ref b102)] [(.int 0), (.int 8), (.int 0), (.ref b102), (.int 0), (.ref t)])) _
    refine XS.isub X102.here hx rfl (hb hby d24_22) rfl ?_
    rw [show ((8 : Int32) - (0 : Int32)) = (8 : Int32) from by decide]
    show Steps p.tables e below (T102.setTop (mkF m 23 #[.val (.ref t), .val (.int 0), .val (.int mm), .val (.int mm), .val (.ref b102)] [(.int 8), (.int 0), (.ref b102), (.int 0), (.ref t)])) _
    refine XS.iloadN X102.here hx rfl (hb hby d24_23) rfl ?_
    show Steps p.tables e below (T102.setTop (mkF m 24 #[.val (.ref t), .val (.int 0), .val (.int mm), .val (.int mm), .val (.ref b102)] [(.int mm), (.int 8), (.int 0), (.ref b102), (.int 0), (.ref t)])) _
    refine st104 _ ?_
    show Steps p.tables e below (T104.setTop (mkF m 27 #[.val (.ref t), .val (.int 0), .val (.int mm), .val (.int mm), .val (.ref b102)] [(.int mm), (.int 0), (.ref b102), (.int 0), (.ref t)])) _
    refine st105 _ ?_
    show Steps p.tables e below (T105.setTop (mkF m 30 #[.val (.ref t), .val (.int 0), .val (.int mm), .val (.int mm), .val (.ref b102)] [])) _
    refine XS.aload X105.here hx rfl (hb hby d24_30) rfl rfl ?_
    show Steps p.tables e below (T105.setTop (mkF m 32 #[.val (.ref t), .val (.int 0), .val (.int mm), .val (.int mm), .val (.ref b102)] [(.ref b102)])) _
    jvm_step X105.here [X105.here.top, hx, (hb hby d24_32), X105.method', Bd.returns, Value.isRef, FieldType.isReference]
    first | (intro acts; rw [hr _ acts rfl rfl rfl]) | rw [hr _ _ rfl rfl rfl]
    exact Steps.refl _
  · show QB Z mm us h0 n0 _ T105.heap _
    rw [e105]
    exact ⟨_, _, rfl, Nc105, KK105, sz_b102, Vc105⟩
theorem d23_0 : decode jdk_65_method_132_code 0 = .ok (.iload_n 1, 1) := by decide +kernel
theorem d23_1 : decode jdk_65_method_132_code 1 = .ok (.ifCond .ne 9, 3) := by decide +kernel
theorem d23_4 : decode jdk_65_method_132_code 4 = .ok (.iload_n 2, 1) := by decide +kernel
theorem d23_5 : decode jdk_65_method_132_code 5 = .ok (.aload_n 0, 1) := by decide +kernel
theorem d23_6 : decode jdk_65_method_132_code 6 = .ok (.arraylength, 1) := by decide +kernel
theorem d23_7 : decode jdk_65_method_132_code 7 = .ok (.if_icmp .eq 10, 3) := by decide +kernel
theorem d23_10 : decode jdk_65_method_132_code 10 = .ok (.aload_n 0, 1) := by decide +kernel
theorem d23_11 : decode jdk_65_method_132_code 11 = .ok (.iload_n 1, 1) := by decide +kernel
theorem d23_12 : decode jdk_65_method_132_code 12 = .ok (.iload_n 2, 1) := by decide +kernel
theorem d23_13 : decode jdk_65_method_132_code 13 = .ok (.invokestatic 339, 3) := by decide +kernel
theorem pd_7 : parseMethodDescriptor "([BII)[B" = some ⟨[(.array .byte), .int, .int], some (.array .byte)⟩ := by decide +kernel
theorem d23_16 : decode jdk_65_method_132_code 16 = .ok (.areturn, 1) := by decide +kernel
abbrev y23 : MethodName := ⟨"java/util/Arrays", "copyOfRange", "([BII)[B"⟩
set_option maxRecDepth 65536 in
set_option maxHeartbeats 40000000 in
theorem rmCR (l : Launch) (Z : State) (a0 : Array Value) (hw : ∀ d ∈ tables_1, d.before a0 Z = true) (ws : List Jvm.Cond) (t : Addr) (kb : ClassId) (mm : Int32) (m_ : Nat) (vs us : List Value) (h0 : Heap) (n0 : Nat) (O0 : Old Z n0 h0) (K : Arv Z h0 t kb .byte (8 : Int32) vs (.int (0 : Int32))) (hcr : CrOK mm m_ vs us) :
    MetFree l y23 (head1 (Jvm.Cond.code y23 jdk_65_method_132_code 3 (some (.array .byte)) :: ws) ({ frames := 2, cells := 1, slots := 8, locals := 56 } : Room)) (fun a_ U => a_ = #[(.ref t), (.int 0), (.int mm)] ∧ Z.Warmed39 U.vm ∧ U.heap = h0) (fun _ _ _ _ _ => True) (fun _ U o U' => ∃ v L, o = .returned v ∧ QB Z mm us h0 n0 v U'.heap L ∧ FrameEnd U o U' L 1 8) := by
  refine MetFree.of_bodySF (plainFor_of_name pn_3) hisR ?_
  intro p e s m args below meth c s₁ Bd hml0 hP hK
  obtain ⟨rfl, hZ, hh⟩ := hP
  have hx := Bd.exec
  have hby := Bd.bytes
  have hml : c.maxLocals = 3 := hml0
  have hown : s.vm.findClass "java/util/Arrays" = some m.cls := findClass_of_methodNamed Bd.named
  have hnm := (name_of_methodNamed Bd.named Bd.method).1
  have X0 : Stand p l e ({ frames := 2, cells := 1, slots := 8, locals := 56 } : Room) s m #[(.ref t), (.int 0), (.int mm)] below meth c s₁ [] 0 0 := Stand.of_body Bd
  have e0 : s₁.heap = h0 := by rw [← hh, Bd.state]; rfl
  have N0 := Fr.nil n0
  have pre0 : ∀ tg, Steps p.tables e below (s₁.setTop (mkF m 0 #[.val (.ref t), .val (.int 0), .val (.int mm)] [])) tg → Steps p.tables e below (s₁.setTop (entryFrame m #[(.ref t), (.int 0), (.int mm)] 3)) tg := fun tg kq => castTop (ef_RII_3 m t (0 : Int32) mm) kq
  obtain ⟨q1, q2, q2', q3, q3', q4, q5, q6⟩ := id hcr
  obtain ⟨cl_t_9, Ar_t_9, -, S_t_9, N_t_9, -, -⟩ := id (K)
  obtain ⟨_, _, ⟨T101, L101, k101, n101⟩, -, X101, ⟨Lc101, hQ101, l101, y101, z101⟩, st101⟩ := Jvm.LawKit.callS X0 hx (y := y24) hown (mvT hZ (wi hw 101 rfl)) (mvT hZ (wi hw 102 rfl)) (mvT hZ (wi hw 99 rfl)) (mvT hZ (wi hw 103 rfl)) (by decide) (backOf (W := 0) (rmCB l Z a0 hw [] t kb mm m_ vs us h0 n0 O0 K hcr) hZ (wi hw 103 rfl) (wi hw 99 rfl) (by decide) (by decide)) (g := (mkF m 13 #[.val (.ref t), .val (.int 0), .val (.int mm)] [(.int mm), (.int 0), (.ref t)])) rfl (by rw [hml]; rfl) (argsL := [(.ref t), (.int 0), (.int mm)]) (rest := []) (lenOf pd_7 rfl) rfl (by show 2 * 0 + _ ≤ _; exact Nat.le_of_eq rfl) (hb hby d23_13) (fun _ _ => ⟨rfl, e0, (by decide : 0 + 1 ≤ _), (by decide : 0 + 8 ≤ _)⟩)
  dsimp only [Pt.U, Pt.locs, Pt.cells, Pt.slots] at X101 l101 y101 z101 st101 hQ101
  subst l101 y101 z101
  obtain ⟨bb101, kk101, rfl, N101q, K101, szb101, Ab101⟩ := hQ101
  obtain ⟨h101, e101⟩ : ∃ z, T101.heap = z := ⟨_, rfl⟩
  rw [e101] at K101 Ab101
  have g_bb101 : n0 ≤ bb101 := Nat.le_trans (O0.1 ▸ O0.2.1) szb101
  have sz_bb101 : h0.size ≤ bb101 := Nat.le_trans (Nat.le_refl _) szb101
  have O101 := O0.keep K101 all0
  have KK101 : Keep h0 h101 [] := (Keep.refl h0 []).trans K101 all0
  have N101 := Fr.app N0 N101q
  obtain ⟨fs, hr, hrun, hended, hW, hsame⟩ := X101.leave (v := some (.ref bb101)) (fun h => by rw [Bd.returns] at h; cases h)
  refine ⟨_, _, pre0 _ ?_, hrun, hended, _, _, rfl, ?_, ⟨_, rfl⟩, hW, hsame.mono (by decide) (by decide)⟩
  · show Steps p.tables e below (s₁.setTop (mkF m 0 #[.val (.ref t), .val (.int 0), .val (.int mm)] [])) _
    refine XS.iloadN X0.here hx rfl (hb hby d23_0) rfl ?_
    refine XS.ifNo X0.here hx rfl (hb hby d23_1) rfl ((if0 _ _).trans (teq (by decide : (0 : Int32) = (0 : Int32))).2) ?_
    refine XS.iloadN X0.here hx rfl (hb hby d23_4) rfl ?_
    show Steps p.tables e below (s₁.setTop (mkF m 5 #[.val (.ref t), .val (.int 0), .val (.int mm)] [(.int mm)])) _
    refine XS.aloadN X0.here hx rfl (hb hby d23_5) rfl rfl ?_
    show Steps p.tables e below (s₁.setTop (mkF m 6 #[.val (.ref t), .val (.int 0), .val (.int mm)] [(.ref t), (.int mm)])) _
    refine X0.arraylength hx (by rw [e0]; exact Ar_t_9.1) (State.isArrayOf_alike hZ.alike Ar_t_9.2.1) (g := (mkF m 6 #[.val (.ref t), .val (.int 0), .val (.int mm)] [(.ref t), (.int mm)])) rfl rfl (hb hby d23_6) _ ?_
    rw [len_of S_t_9 N_t_9]
    show Steps p.tables e below (s₁.setTop (mkF m 7 #[.val (.ref t), .val (.int 0), .val (.int mm)] [(.int 8), (.int mm)])) _
    refine XS.icmpNo X0.here hx rfl (hb hby d23_7) rfl (feq q3).1 ?_
    refine XS.aloadN X0.here hx rfl (hb hby d23_10) rfl rfl ?_
    refine XS.iloadN X0.here hx rfl (hb hby d23_11) rfl ?_
    show Steps p.tables e below (s₁.setTop (mkF m 12 #[.val (.ref t), .val (.int 0), .val (.int mm)] [(.int 0), (.ref t)])) _
    refine XS.iloadN X0.here hx rfl (hb hby d23_12) rfl ?_
    show Steps p.tables e below (s₁.setTop (mkF m 13 #[.val (.ref t), .val (.int 0), .val (.int mm)] [(.int mm), (.int 0), (.ref t)])) _
    refine st101 _ ?_
    show Steps p.tables e below (T101.setTop (mkF m 16 #[.val (.ref t), .val (.int 0), .val (.int mm)] [(.ref bb101)])) _
    jvm_step X101.here [X101.here.top, hx, (hb hby d23_16), X101.method', Bd.returns, Value.isRef, FieldType.isReference]
    first | (intro acts; rw [hr _ acts rfl rfl rfl]) | rw [hr _ _ rfl rfl rfl]
    exact Steps.refl _
  · show QB Z mm us h0 n0 _ T101.heap _
    rw [e101]
    exact ⟨_, _, rfl, N101, KK101, sz_bb101, Ab101⟩
theorem d22_0 : decode jdk_43_method_47_code 0 = .ok (.iload_n 2, 1) := by decide +kernel
theorem d22_1 : decode jdk_43_method_47_code 1 = .ok (.ifCond .ne 6, 3) := by decide +kernel
theorem d22_7 : decode jdk_43_method_47_code 7 = .ok (.new 1, 3) := by decide +kernel
theorem d22_10 : decode jdk_43_method_47_code 10 = .ok (.dup, 1) := by decide +kernel
theorem d22_11 : decode jdk_43_method_47_code 11 = .ok (.aload_n 0, 1) := by decide +kernel
theorem d22_12 : decode jdk_43_method_47_code 12 = .ok (.iload_n 1, 1) := by decide +kernel
theorem d22_13 : decode jdk_43_method_47_code 13 = .ok (.iload_n 1, 1) := by decide +kernel
theorem d22_14 : decode jdk_43_method_47_code 14 = .ok (.iload_n 2, 1) := by decide +kernel
theorem d22_15 : decode jdk_43_method_47_code 15 = .ok (.iadd, 1) := by decide +kernel
theorem d22_16 : decode jdk_43_method_47_code 16 = .ok (.invokestatic 232, 3) := by decide +kernel
theorem d22_19 : decode jdk_43_method_47_code 19 = .ok (.iconst 0, 1) := by decide +kernel
theorem d22_20 : decode jdk_43_method_47_code 20 = .ok (.invokespecial 112, 3) := by decide +kernel
theorem pd_8 : parseMethodDescriptor "([BB)V" = some ⟨[(.array .byte), .byte], none⟩ := by decide +kernel
theorem d22_23 : decode jdk_43_method_47_code 23 = .ok (.areturn, 1) := by decide +kernel
abbrev y22 : MethodName := ⟨"java/lang/StringLatin1", "newString", "([BII)Ljava/lang/String;"⟩
set_option maxRecDepth 65536 in
set_option maxHeartbeats 40000000 in
theorem rmNS (l : Launch) (Z : State) (a0 : Array Value) (hw : ∀ d ∈ tables_1, d.before a0 Z = true) (ws : List Jvm.Cond) (t : Addr) (kb : ClassId) (mm : Int32) (m_ : Nat) (vs us : List Value) (cm : List Int32) (h0 : Heap) (n0 : Nat) (O0 : Old Z n0 h0) (K : Arv Z h0 t kb .byte (8 : Int32) vs (.int (0 : Int32))) (hcr : CrOK mm m_ vs us) (hus : us = (cm.map (fun c => Value.int (StrChars.lo8 c)))) (hkm : mm = Int32.ofNat cm.length) (hpm : ∀ c ∈ cm, ¬ c < 0 ∧ ¬ (255 : Int32) < c) (hlm : cm.length ≤ 4000) :
    MetFree l y22 (head1 (Jvm.Cond.code y22 jdk_43_method_47_code 3 (some (.object "java/lang/String")) :: ws) ({ frames := 3, cells := 2, slots := 12, locals := 72 } : Room)) (fun a_ U => a_ = #[(.ref t), (.int 0), (.int mm)] ∧ Z.Warmed39 U.vm ∧ U.heap = h0) (fun _ _ _ _ _ => True) (fun _ U o U' => ∃ v L, o = .returned v ∧ QS Z cm h0 n0 v U'.heap L ∧ FrameEnd U o U' L 2 12) := by
  refine MetFree.of_bodySF (plainFor_of_name pn_1) hisR ?_
  intro p e s m args below meth c s₁ Bd hml0 hP hK
  obtain ⟨rfl, hZ, hh⟩ := hP
  have hx := Bd.exec
  have hby := Bd.bytes
  have hml : c.maxLocals = 3 := hml0
  have hown : s.vm.findClass "java/lang/StringLatin1" = some m.cls := findClass_of_methodNamed Bd.named
  have hnm := (name_of_methodNamed Bd.named Bd.method).1
  have X0 : Stand p l e ({ frames := 3, cells := 2, slots := 12, locals := 72 } : Room) s m #[(.ref t), (.int 0), (.int mm)] below meth c s₁ [] 0 0 := Stand.of_body Bd
  have e0 : s₁.heap = h0 := by rw [← hh, Bd.state]; rfl
  have N0 := Fr.nil n0
  have pre0 : ∀ tg, Steps p.tables e below (s₁.setTop (mkF m 0 #[.val (.ref t), .val (.int 0), .val (.int mm)] [])) tg → Steps p.tables e below (s₁.setTop (entryFrame m #[(.ref t), (.int 0), (.int mm)] 3)) tg := fun tg kq => castTop (ef_RII_3 m t (0 : Int32) mm) kq
  obtain ⟨q1, q2, q2', q3, q3', q4, q5, q6⟩ := id hcr
  obtain ⟨T101, h101, X101, e101, E101, A101, D101, -, st101⟩ := newO X0 hx hZ hown (wi hw 96 rfl) (wi hw 6 rfl) (wi hw 7 rfl) e0 (g := (mkF m 7 #[.val (.ref t), .val (.int 0), .val (.int mm)] [])) rfl (hb hby d22_7) (by decide) (by decide)
  obtain ⟨b101, g101⟩ : ∃ z, z = h0.size := ⟨_, rfl⟩
  rw [← g101] at A101 D101 st101
  have g_b101 : n0 ≤ b101 := Nat.le_trans (O0.1 ▸ O0.2.1) (Nat.le_of_eq g101.symm)
  have sz_b101 : h0.size ≤ b101 := Nat.le_trans (Nat.le_refl _) (Nat.le_of_eq g101.symm)
  have O101 := O0.ext E101
  have KK101 : Keep h0 h101 [] := (Keep.refl h0 []).ext E101
  have F_coder_b101 : Fld Z h101 b101 "java/lang/String" "coder" "B" (.int 0) := D101 (Or.inr (wi hw 31 rfl)) (ty := .byte) (by decide)
  have F_value_b101 : Fld Z h101 b101 "java/lang/String" "value" "[B" .null := D101 (Or.inr (wi hw 33 rfl)) (ty := (.array .byte)) (by decide)
  have fV_t_1_102 := (K.ext E101)
  obtain ⟨_, _, ⟨T103, L103, k103, n103⟩, -, X103, ⟨Lc103, hQ103, l103, y103, z103⟩, st103⟩ := Jvm.LawKit.callS X101 hx (y := y23) hown (mvT hZ (wi hw 97 rfl)) (mvT hZ (wi hw 98 rfl)) (mvT hZ (wi hw 99 rfl)) (mvT hZ (wi hw 100 rfl)) (by decide) (backOf (W := 2) (rmCR l Z a0 hw [] t kb mm m_ vs us h101 n0 O101 fV_t_1_102 hcr) hZ (wi hw 100 rfl) (wi hw 99 rfl) (by decide) (by decide)) (g := (mkF m 16 #[.val (.ref t), .val (.int 0), .val (.int mm)] [(.int mm), (.int 0), (.ref t), (.ref b101), (.ref b101)])) rfl (by rw [hml]; rfl) (argsL := [(.ref t), (.int 0), (.int mm)]) (rest := [(.ref b101), (.ref b101)]) (lenOf pd_7 rfl) rfl (by show 2 * 0 + _ ≤ _; exact Nat.le_of_eq rfl) (hb hby d22_16) (fun _ _ => ⟨rfl, e101, (by decide : 1 + 1 ≤ _), (by decide : 4 + 8 ≤ _)⟩)
  dsimp only [Pt.U, Pt.locs, Pt.cells, Pt.slots] at X103 l103 y103 z103 st103 hQ103
  subst l103 y103 z103
  obtain ⟨bb103, kk103, rfl, N103q, K103, szb103, Ab103⟩ := hQ103
  obtain ⟨h103, e103⟩ : ∃ z, T103.heap = z := ⟨_, rfl⟩
  rw [e103] at K103 Ab103
  have g_bb103 : n0 ≤ bb103 := Nat.le_trans (O101.1 ▸ O101.2.1) szb103
  have sz_bb103 : h0.size ≤ bb103 := Nat.le_trans KK101.1 szb103
  have O103 := O101.keep K103 all0
  have KK103 : Keep h0 h103 [] := KK101.trans K103 all0
  have N103 := Fr.app N0 N103q
  have fE_b101_2_104 := (A101.keep K103)
  have fString_value_2_105 := (F_value_b101.keep K103 nin0)
  have fString_coder_2_106 := (F_coder_b101.keep K103 nin0)
  obtain ⟨_, _, ⟨T107, L107, k107, n107⟩, -, X107, ⟨Lc107, hQ107, l107, y107, z107⟩, st107⟩ := X103.specialBack hx (y := y26) rfl hown (mvT hZ (wi hw 112 rfl)) (mvT hZ (wi hw 113 rfl)) (mvT hZ (wi hw 114 rfl)) (by decide) (backOf (W := 1) (rm11 l Z a0 hw [] b101 bb103 h103 n0 O103 fE_b101_2_104 fString_value_2_105 fString_coder_2_106 g_b101) hZ (wi hw 114 rfl) (wi hw 7 rfl) (by decide) (by decide)) (g := (mkF m 20 #[.val (.ref t), .val (.int 0), .val (.int mm)] [(.int 0), (.ref bb103), (.ref b101), (.ref b101)])) rfl (by rw [hml]; rfl) (Steps.refl _) (a := b101) (argsL := [(.ref bb103), (.int 0)]) (rest := [(.ref b101)]) (lenOf pd_8 rfl) rfl (by show 2 * 0 + _ ≤ _; exact Nat.le_of_eq rfl) (hb hby d22_20) (fun _ _ => ⟨rfl, e103, (by decide : 2 + 0 ≤ _), (by decide : 12 + 0 ≤ _)⟩)
  dsimp only [Pt.U, Pt.locs, Pt.cells, Pt.slots] at X107 l107 y107 z107 st107 hQ107
  subst l107 y107 z107
  obtain ⟨rfl, N107q, K107, sE107, sV107, sC107⟩ := hQ107
  obtain ⟨h107, e107⟩ : ∃ z, T107.heap = z := ⟨_, rfl⟩
  rw [e107] at K107 sE107 sV107 sC107
  have O107 := O103.keep K107 (allS g_b101 all0)
  have KK107 : Keep h0 h107 [] := KK103.trans K107 (allS (Or.inr sz_b101) all0)
  have N107 := Fr.app N103 N107q
  have fV_bb103_3_108 := (Ab103.keep K107 (ninS (Ne.symm (Nat.ne_of_lt (Nat.lt_of_lt_of_le A101.lt szb103))) nin0))
  obtain ⟨fs, hr, hrun, hended, hW, hsame⟩ := X107.leave (v := some (.ref b101)) (fun h => by rw [Bd.returns] at h; cases h)
  refine ⟨_, _, pre0 _ ?_, hrun, hended, _, _, rfl, ?_, ⟨_, rfl⟩, hW, hsame.mono (by decide) (by decide)⟩
  · show Steps p.tables e below (s₁.setTop (mkF m 0 #[.val (.ref t), .val (.int 0), .val (.int mm)] [])) _
    refine XS.iloadN X0.here hx rfl (hb hby d22_0) rfl ?_
    refine XS.ifYes X0.here hx rfl (pc0 := 1) (pc' := 7) rfl (hb hby d22_1) rfl ((if0 _ _).trans (feq q3').2) (by decide) (by decide) ?_
    show Steps p.tables e below (s₁.setTop (mkF m 7 #[.val (.ref t), .val (.int 0), .val (.int mm)] [])) _
    refine st101 _ ?_
    show Steps p.tables e below (T101.setTop (mkF m 10 #[.val (.ref t), .val (.int 0), .val (.int mm)] [(.ref b101)])) _
    refine XS.dup X101.here hx rfl (hb hby d22_10) rfl rfl ?_
    refine XS.aloadN X101.here hx rfl (hb hby d22_11) rfl rfl ?_
    refine XS.iloadN X101.here hx rfl (hb hby d22_12) rfl ?_
    show Steps p.tables e below (T101.setTop (mkF m 13 #[.val (.ref t), .val (.int 0), .val (.int mm)] [(.int 0), (.ref t), (.ref b101), (.ref b101)])) _
    refine XS.iloadN X101.here hx rfl (hb hby d22_13) rfl ?_
    refine XS.iloadN X101.here hx rfl (hb hby d22_14) rfl ?_
    show Steps p.tables e below (T101.setTop (mkF m 15 #[.val (.ref t), .val (.int 0), .val (.int mm)] [(.int mm), (.int 0), (.int 0), (.ref t), (.ref b101), (.ref b101)])) _
    refine XS.iadd X101.here hx rfl (hb hby d22_15) rfl ?_
    rw [show ((0 : Int32) + mm) = mm from own_0add mm]
    show Steps p.tables e below (T101.setTop (mkF m 16 #[.val (.ref t), .val (.int 0), .val (.int mm)] [(.int mm), (.int 0), (.ref t), (.ref b101), (.ref b101)])) _
    refine st103 _ ?_
    show Steps p.tables e below (T103.setTop (mkF m 19 #[.val (.ref t), .val (.int 0), .val (.int mm)] [(.ref bb103), (.ref b101), (.ref b101)])) _
    refine XS.iconst X103.here hx rfl (hb hby d22_19) ?_
    show Steps p.tables e below (T103.setTop (mkF m 20 #[.val (.ref t), .val (.int 0), .val (.int mm)] [(.int 0), (.ref bb103), (.ref b101), (.ref b101)])) _
    refine st107.trans ?_
    show Steps p.tables e below (T107.setTop (mkF m 23 #[.val (.ref t), .val (.int 0), .val (.int mm)] [(.ref b101)])) _
    jvm_step X107.here [X107.here.top, hx, (hb hby d22_23), X107.method', Bd.returns, Value.isRef, FieldType.isReference]
    first | (intro acts; rw [hr _ acts rfl rfl rfl]) | rw [hr _ _ rfl rfl rfl]
    exact Steps.refl _
  · show QS Z cm h0 n0 _ T107.heap _
    rw [e107]
    exact ⟨_, rfl, N107, KK107, sz_b101, ⟨_, _, _, _, sE107, sV107, sC107, fV_bb103_3_108, Or.inl ⟨rfl, hkm, hus, fun c hc => (hpm c hc).2⟩, hpm, hlm⟩⟩
theorem d19_0 : decode jdk_42_method_92_code 0 = .ok (.aload_n 0, 1) := by decide +kernel
theorem d19_1 : decode jdk_42_method_92_code 1 = .ok (.invokevirtual 505, 3) := by decide +kernel
theorem d19_4 : decode jdk_42_method_92_code 4 = .ok (.istore_n 3, 1) := by decide +kernel
theorem d19_5 : decode jdk_42_method_92_code 5 = .ok (.iload_n 1, 1) := by decide +kernel
theorem d19_6 : decode jdk_42_method_92_code 6 = .ok (.iload_n 2, 1) := by decide +kernel
theorem d19_7 : decode jdk_42_method_92_code 7 = .ok (.iload_n 3, 1) := by decide +kernel
theorem d19_8 : decode jdk_42_method_92_code 8 = .ok (.invokestatic 521, 3) := by decide +kernel
theorem pd_9 : parseMethodDescriptor "(III)V" = some ⟨[.int, .int, .int], none⟩ := by decide +kernel
theorem d19_11 : decode jdk_42_method_92_code 11 = .ok (.iload_n 1, 1) := by decide +kernel
theorem d19_12 : decode jdk_42_method_92_code 12 = .ok (.ifCond .ne 10, 3) := by decide +kernel
theorem d19_15 : decode jdk_42_method_92_code 15 = .ok (.iload_n 2, 1) := by decide +kernel
theorem d19_16 : decode jdk_42_method_92_code 16 = .ok (.iload_n 3, 1) := by decide +kernel
theorem d19_17 : decode jdk_42_method_92_code 17 = .ok (.if_icmp .ne 5, 3) := by decide +kernel
theorem d19_22 : decode jdk_42_method_92_code 22 = .ok (.iload_n 2, 1) := by decide +kernel
theorem d19_23 : decode jdk_42_method_92_code 23 = .ok (.iload_n 1, 1) := by decide +kernel
theorem d19_24 : decode jdk_42_method_92_code 24 = .ok (.isub, 1) := by decide +kernel
theorem d19_25 : decode jdk_42_method_92_code 25 = .ok (.istore 4, 2) := by decide +kernel
theorem d19_27 : decode jdk_42_method_92_code 27 = .ok (.aload_n 0, 1) := by decide +kernel
theorem d19_28 : decode jdk_42_method_92_code 28 = .ok (.invokevirtual 492, 3) := by decide +kernel
theorem d19_31 : decode jdk_42_method_92_code 31 = .ok (.ifCond .eq 16, 3) := by decide +kernel
theorem d19_34 : decode jdk_42_method_92_code 34 = .ok (.aload_n 0, 1) := by decide +kernel
theorem d19_35 : decode jdk_42_method_92_code 35 = .ok (.getfield 9, 3) := by decide +kernel
theorem d19_38 : decode jdk_42_method_92_code 38 = .ok (.iload_n 1, 1) := by decide +kernel
theorem d19_39 : decode jdk_42_method_92_code 39 = .ok (.iload 4, 2) := by decide +kernel
theorem d19_41 : decode jdk_42_method_92_code 41 = .ok (.invokestatic 685, 3) := by decide +kernel
theorem pd_10 : parseMethodDescriptor "([BII)Ljava/lang/String;" = some ⟨[(.array .byte), .int, .int], some (.object "java/lang/String")⟩ := by decide +kernel
theorem d19_44 : decode jdk_42_method_92_code 44 = .ok (.goto 13, 3) := by decide +kernel
theorem d19_57 : decode jdk_42_method_92_code 57 = .ok (.areturn, 1) := by decide +kernel
abbrev y19 : MethodName := ⟨"java/lang/String", "substring", "(II)Ljava/lang/String;"⟩
set_option maxRecDepth 65536 in
set_option maxHeartbeats 40000000 in
theorem rmSS (l : Launch) (Z : State) (a0 : Array Value) (hw : ∀ d ∈ tables_1, d.before a0 Z = true) (ws : List Jvm.Cond) (G1 : Int32) (G3 : Value) (x : Addr) (mm : Int32) (m_ : Nat) (cs cm : List Int32) (h0 : Heap) (n0 : Nat) (O0 : Old Z n0 h0) (S_CS : Sta Z Z.heap "java/lang/String" "COMPACT_STRINGS" "Z" (.int G1)) (hG1 : ¬ (G1 = (0 : Int32))) (S_SF : Sta Z Z.heap "jdk/internal/util/Preconditions" "SIOOBE_FORMATTER" "Ljava/util/function/BiFunction;" G3) (rG3 : G3.isRef = true) (T : Str Z h0 x cs) (e8 : Int32.ofNat cs.length = (8 : Int32)) (hcr : CrOK mm m_ (cs.map (fun c => Value.int (StrChars.lo8 c))) (cm.map (fun c => Value.int (StrChars.lo8 c)))) (hkm : mm = Int32.ofNat cm.length) (hpm : ∀ c ∈ cm, ¬ c < 0 ∧ ¬ (255 : Int32) < c) (hlm : cm.length ≤ 4000) :
    MetFree l y19 (head1 (Jvm.Cond.code y19 jdk_42_method_92_code 5 (some (.object "java/lang/String")) :: ws) ({ frames := 4, cells := 2, slots := 12, locals := 86 } : Room)) (fun a_ U => a_ = #[(.ref x), (.int 0), (.int mm)] ∧ Z.Warmed39 U.vm ∧ U.heap = h0) (fun _ _ _ _ _ => True) (fun _ U o U' => ∃ v L, o = .returned v ∧ QS Z cm h0 n0 v U'.heap L ∧ FrameEnd U o U' L 2 12) := by
  refine MetFree.of_bodySF (plainFor_of_name pn_2) hisR ?_
  intro p e s m args below meth c s₁ Bd hml0 hP hK
  obtain ⟨rfl, hZ, hh⟩ := hP
  have hx := Bd.exec
  have hby := Bd.bytes
  have hml : c.maxLocals = 5 := hml0
  have hown : s.vm.findClass "java/lang/String" = some m.cls := findClass_of_methodNamed Bd.named
  have hnm := (name_of_methodNamed Bd.named Bd.method).1
  have X0 : Stand p l e ({ frames := 4, cells := 2, slots := 12, locals := 86 } : Room) s m #[(.ref x), (.int 0), (.int mm)] below meth c s₁ [] 0 0 := Stand.of_body Bd
  have e0 : s₁.heap = h0 := by rw [← hh, Bd.state]; rfl
  have N0 := Fr.nil n0
  have pre0 : ∀ tg, Steps p.tables e below (s₁.setTop (mkF m 0 #[.val (.ref x), .val (.int 0), .val (.int mm), .unset, .unset] [])) tg → Steps p.tables e below (s₁.setTop (entryFrame m #[(.ref x), (.int 0), (.int mm)] 5)) tg := fun tg kq => castTop (ef_RII_5 m x (0 : Int32) mm) kq
  obtain ⟨tx, kbx, Nx, vsx, sEx, sVx, sCx, sKx, scdx, shpx, shlx⟩ := id T
  obtain ⟨rfl, rfl⟩ := own_cod scdx
  rw [e8] at sKx scdx
  obtain ⟨q1, q2, q2', q3, q3', q4, q5, q6⟩ := id hcr
  obtain ⟨cq101, kq101, q101a, q101b, q101c⟩ := isOf hZ e0 sEx
  obtain ⟨_, _, ⟨T101, L101, k101, n101⟩, -, X101, ⟨Lc101, hQ101, l101, y101, z101⟩, st101⟩ := X0.virtualBack hx (y := y12) (z := y12) hown (mvT hZ (wi hw 53 rfl)) (mvT hZ (wi hw 54 rfl)) (notFace_of_selects (args := #[]) (mvT hZ (wi hw 56 rfl))) (mvT hZ (wi hw 56 rfl)) (mvT hZ (wi hw 55 rfl)) (by decide) (StrChars.Road.lenW (W := 0) hZ (fun d hd => hw d (own_w_lenW d hd)) (kI := 4) (wi hw 6 rfl) sEx sVx sCx sKx scdx (own_up _ shpx) (S_CS.ext O0.2) hG1 shlx (by decide) (by decide)) q101a q101c (g := (mkF m 1 #[.val (.ref x), .val (.int 0), .val (.int mm), .unset, .unset] [(.ref x)])) rfl (by rw [hml]; rfl) (Steps.refl _) (argsL := []) (rest := []) (lenOf pd_5 rfl) rfl (by show 2 * 0 + _ ≤ _; exact Nat.le_of_eq rfl) (hb hby d19_1) (fun _ _ => ⟨rfl, e0, (by decide : 0 + 0 ≤ _), (by decide : 0 + 0 ≤ _)⟩)
  dsimp only [Pt.U, Pt.locs, Pt.cells, Pt.slots] at X101 l101 y101 z101 st101 hQ101
  subst l101 y101 z101
  rw [e8] at hQ101
  obtain ⟨rfl, rfl, hh101⟩ := hQ101
  have N101q : Fr n0 ([] : List Loc) := Fr.nil n0
  have e101 : T101.heap = h0 := hh101
  have N101 := Fr.app N0 N101q
  obtain ⟨_, _, ⟨T102, L102, k102, n102⟩, -, X102, ⟨Lc102, hQ102, l102, y102, z102⟩, st102⟩ := Jvm.LawKit.callS X101 hx (y := y20) hown (mvT hZ (wi hw 85 rfl)) (mvT hZ (wi hw 86 rfl)) (mvT hZ (wi hw 7 rfl)) (mvT hZ (wi hw 87 rfl)) (by decide) (backOf (W := 0) (rmBE l Z a0 hw [] mm G3 h0 n0 O0 S_SF rG3 q1 q2') hZ (wi hw 87 rfl) (wi hw 7 rfl) (by decide) (by decide)) (g := (mkF m 8 #[.val (.ref x), .val (.int 0), .val (.int mm), .val (.int 8), .unset] [(.int 8), (.int mm), (.int 0)])) rfl (by rw [hml]; rfl) (argsL := [(.int 0), (.int mm), (.int 8)]) (rest := []) (lenOf pd_9 rfl) rfl (by show 2 * 0 + _ ≤ _; exact Nat.le_of_eq rfl) (hb hby d19_8) (fun _ _ => ⟨rfl, e101, (by decide : 0 + 0 ≤ _), (by decide : 0 + 0 ≤ _)⟩)
  dsimp only [Pt.U, Pt.locs, Pt.cells, Pt.slots] at X102 l102 y102 z102 st102 hQ102
  subst l102 y102 z102
  obtain ⟨rfl, N102q, hh102⟩ := hQ102
  have e102 : T102.heap = h0 := hh102
  have N102 := Fr.app N101 N102q
  obtain ⟨cq103, kq103, q103a, q103b, q103c⟩ := isOf hZ e102 sEx
  obtain ⟨_, _, ⟨T103, L103, k103, n103⟩, -, X103, ⟨Lc103, hQ103, l103, y103, z103⟩, st103⟩ := X102.virtualBack hx (y := y11) (z := y11) hown (mvT hZ (wi hw 48 rfl)) (mvT hZ (wi hw 49 rfl)) (notFace_of_selects (args := #[]) (mvT hZ (wi hw 51 rfl))) (mvT hZ (wi hw 51 rfl)) (mvT hZ (wi hw 50 rfl)) (by decide) (backOf (W := 0) (rmL l Z a0 hw [] G1 x h0 n0 O0 S_CS hG1 sCx) hZ (wi hw 52 rfl) (wi hw 7 rfl) (by decide) (by decide)) q103a q103c (g := (mkF m 28 #[.val (.ref x), .val (.int 0), .val (.int mm), .val (.int 8), .val (.int mm)] [(.ref x)])) rfl (by rw [hml]; rfl) (Steps.refl _) (argsL := []) (rest := []) (lenOf pd_4 rfl) rfl (by show 2 * 0 + _ ≤ _; exact Nat.le_of_eq rfl) (hb hby d19_28) (fun _ _ => ⟨rfl, e102, (by decide : 0 + 0 ≤ _), (by decide : 0 + 0 ≤ _)⟩)
  dsimp only [Pt.U, Pt.locs, Pt.cells, Pt.slots] at X103 l103 y103 z103 st103 hQ103
  subst l103 y103 z103
  obtain ⟨rfl, N103q, hh103⟩ := hQ103
  have e103 : T103.heap = h0 := hh103
  have N103 := Fr.app N102 N103q
  obtain ⟨T104, X104, e104, st104⟩ := getF X103 hx hZ hown (host := "") (Or.inl (wi hw 32 rfl)) Via.refl e103 sVx (g := (mkF m 35 #[.val (.ref x), .val (.int 0), .val (.int mm), .val (.int 8), .val (.int mm)] [(.ref x)])) rfl rfl (hb hby d19_35)
  obtain ⟨_, _, ⟨T105, L105, k105, n105⟩, -, X105, ⟨Lc105, hQ105, l105, y105, z105⟩, st105⟩ := Jvm.LawKit.callS X104 hx (y := y22) hown (mvT hZ (wi hw 93 rfl)) (mvT hZ (wi hw 94 rfl)) (mvT hZ (wi hw 65 rfl)) (mvT hZ (wi hw 95 rfl)) (by decide) (backOf (W := 0) (rmNS l Z a0 hw [] tx kbx mm m_ (cs.map (fun c => Value.int (StrChars.lo8 c))) (cm.map (fun c => Value.int (StrChars.lo8 c))) cm h0 n0 O0 sKx hcr rfl hkm hpm hlm) hZ (wi hw 95 rfl) (wi hw 65 rfl) (by decide) (by decide)) (g := (mkF m 41 #[.val (.ref x), .val (.int 0), .val (.int mm), .val (.int 8), .val (.int mm)] [(.int mm), (.int 0), (.ref tx)])) rfl (by rw [hml]; rfl) (argsL := [(.ref tx), (.int 0), (.int mm)]) (rest := []) (lenOf pd_10 rfl) rfl (by show 2 * 0 + _ ≤ _; exact Nat.le_of_eq rfl) (hb hby d19_41) (fun _ _ => ⟨rfl, e104, (by decide : 0 + 2 ≤ _), (by decide : 0 + 12 ≤ _)⟩)
  dsimp only [Pt.U, Pt.locs, Pt.cells, Pt.slots] at X105 l105 y105 z105 st105 hQ105
  subst l105 y105 z105
  obtain ⟨xs105, rfl, N105q, K105, szx105, T105q⟩ := hQ105
  obtain ⟨h105, e105⟩ : ∃ z, T105.heap = z := ⟨_, rfl⟩
  rw [e105] at K105 T105q
  have g_xs105 : n0 ≤ xs105 := Nat.le_trans (O0.1 ▸ O0.2.1) szx105
  have sz_xs105 : h0.size ≤ xs105 := Nat.le_trans (Nat.le_refl _) szx105
  have O105 := O0.keep K105 all0
  have KK105 : Keep h0 h105 [] := (Keep.refl h0 []).trans K105 all0
  have N105 := Fr.app N103 N105q
  obtain ⟨fs, hr, hrun, hended, hW, hsame⟩ := X105.leave (v := some (.ref xs105)) (fun h => by rw [Bd.returns] at h; cases h)
  refine ⟨_, _, pre0 _ ?_, hrun, hended, _, _, rfl, ?_, ⟨_, rfl⟩, hW, hsame.mono (by decide) (by decide)⟩
  · show Steps p.tables e below (s₁.setTop (mkF m 0 #[.val (.ref x), .val (.int 0), .val (.int mm), .unset, .unset] [])) _
    refine XS.aloadN X0.here hx rfl (hb hby d19_0) rfl rfl ?_
    show Steps p.tables e below (s₁.setTop (mkF m 1 #[.val (.ref x), .val (.int 0), .val (.int mm), .unset, .unset] [(.ref x)])) _
    refine st101.trans ?_
    show Steps p.tables e below (T101.setTop (mkF m 4 #[.val (.ref x), .val (.int 0), .val (.int mm), .unset, .unset] [(.int 8)])) _
    refine XS.istoreN X101.here hx rfl (hb hby d19_4) rfl (l' := #[.val (.ref x), .val (.int 0), .val (.int mm), .val (.int 8), .unset]) rfl ?_
    refine XS.iloadN X101.here hx rfl (hb hby d19_5) rfl ?_
    refine XS.iloadN X101.here hx rfl (hb hby d19_6) rfl ?_
    show Steps p.tables e below (T101.setTop (mkF m 7 #[.val (.ref x), .val (.int 0), .val (.int mm), .val (.int 8), .unset] [(.int mm), (.int 0)])) _
    refine XS.iloadN X101.here hx rfl (hb hby d19_7) rfl ?_
    show Steps p.tables e below (T101.setTop (mkF m 8 #[.val (.ref x), .val (.int 0), .val (.int mm), .val (.int 8), .unset] [(.int 8), (.int mm), (.int 0)])) _
    refine st102 _ ?_
    show Steps p.tables e below (T102.setTop (mkF m 11 #[.val (.ref x), .val (.int 0), .val (.int mm), .val (.int 8), .unset] [])) _
    refine XS.iloadN X102.here hx rfl (hb hby d19_11) rfl ?_
    refine XS.ifNo X102.here hx rfl (hb hby d19_12) rfl ((if0 _ _).trans (teq (by decide : (0 : Int32) = (0 : Int32))).2) ?_
    refine XS.iloadN X102.here hx rfl (hb hby d19_15) rfl ?_
    show Steps p.tables e below (T102.setTop (mkF m 16 #[.val (.ref x), .val (.int 0), .val (.int mm), .val (.int 8), .unset] [(.int mm)])) _
    refine XS.iloadN X102.here hx rfl (hb hby d19_16) rfl ?_
    refine XS.icmpYes X102.here hx rfl (pc0 := 17) (pc' := 22) rfl (hb hby d19_17) rfl (feq q3).2 (by decide) (by decide) ?_
    refine XS.iloadN X102.here hx rfl (hb hby d19_22) rfl ?_
    show Steps p.tables e below (T102.setTop (mkF m 23 #[.val (.ref x), .val (.int 0), .val (.int mm), .val (.int 8), .unset] [(.int mm)])) _
    refine XS.iloadN X102.here hx rfl (hb hby d19_23) rfl ?_
    show Steps p.tables e below (T102.setTop (mkF m 24 #[.val (.ref x), .val (.int 0), .val (.int mm), .val (.int 8), .unset] [(.int 0), (.int mm)])) _
    refine XS.isub X102.here hx rfl (hb hby d19_24) rfl ?_
    rw [show (mm - (0 : Int32)) = mm from own_sub0 mm]
    show Steps p.tables e below (T102.setTop (mkF m 25 #[.val (.ref x), .val (.int 0), .val (.int mm), .val (.int 8), .unset] [(.int mm)])) _
    refine XS.istore X102.here hx rfl (hb hby d19_25) rfl (l' := #[.val (.ref x), .val (.int 0), .val (.int mm), .val (.int 8), .val (.int mm)]) rfl ?_
    refine XS.aloadN X102.here hx rfl (hb hby d19_27) rfl rfl ?_
    show Steps p.tables e below (T102.setTop (mkF m 28 #[.val (.ref x), .val (.int 0), .val (.int mm), .val (.int 8), .val (.int mm)] [(.ref x)])) _
    refine st103.trans ?_
    show Steps p.tables e below (T103.setTop (mkF m 31 #[.val (.ref x), .val (.int 0), .val (.int mm), .val (.int 8), .val (.int mm)] [(.int 1)])) _
    refine XS.ifNo X103.here hx rfl (hb hby d19_31) rfl ((if0 _ _).trans (feq (by decide : ¬ ((1 : Int32) = (0 : Int32)))).1) ?_
    refine XS.aloadN X103.here hx rfl (hb hby d19_34) rfl rfl ?_
    show Steps p.tables e below (T103.setTop (mkF m 35 #[.val (.ref x), .val (.int 0), .val (.int mm), .val (.int 8), .val (.int mm)] [(.ref x)])) _
    refine st104 _ ?_
    show Steps p.tables e below (T104.setTop (mkF m 38 #[.val (.ref x), .val (.int 0), .val (.int mm), .val (.int 8), .val (.int mm)] [(.ref tx)])) _
    refine XS.iloadN X104.here hx rfl (hb hby d19_38) rfl ?_
    refine XS.iload X104.here hx rfl (hb hby d19_39) rfl ?_
    show Steps p.tables e below (T104.setTop (mkF m 41 #[.val (.ref x), .val (.int 0), .val (.int mm), .val (.int 8), .val (.int mm)] [(.int mm), (.int 0), (.ref tx)])) _
    refine st105 _ ?_
    show Steps p.tables e below (T105.setTop (mkF m 44 #[.val (.ref x), .val (.int 0), .val (.int mm), .val (.int 8), .val (.int mm)] [(.ref xs105)])) _
    refine XS.goto X105.here hx rfl (pc0 := 44) (pc' := 57) rfl (hb hby d19_44) (by decide) (by decide) ?_
    show Steps p.tables e below (T105.setTop (mkF m 57 #[.val (.ref x), .val (.int 0), .val (.int mm), .val (.int 8), .val (.int mm)] [(.ref xs105)])) _
    jvm_step X105.here [X105.here.top, hx, (hb hby d19_57), X105.method', Bd.returns, Value.isRef, FieldType.isReference]
    first | (intro acts; rw [hr _ acts rfl rfl rfl]) | rw [hr _ _ rfl rfl rfl]
    exact Steps.refl _
  · show QS Z cm h0 n0 _ T105.heap _
    rw [e105]
    exact ⟨_, rfl, N105, KK105, sz_xs105, T105q⟩
theorem d8_0 : decode prog_11_method_3_code 0 = .ok (.aload_n 0, 1) := by decide +kernel
theorem d8_1 : decode prog_11_method_3_code 1 = .ok (.iconst 0, 1) := by decide +kernel
theorem d8_2 : decode prog_11_method_3_code 2 = .ok (.aload_n 0, 1) := by decide +kernel
theorem d8_3 : decode prog_11_method_3_code 3 = .ok (.bipush 46, 2) := by decide +kernel
theorem d8_5 : decode prog_11_method_3_code 5 = .ok (.invokevirtual 143, 3) := by decide +kernel
theorem pd_11 : parseMethodDescriptor "(I)I" = some ⟨[.int], some .int⟩ := by decide +kernel
theorem d8_8 : decode prog_11_method_3_code 8 = .ok (.invokevirtual 147, 3) := by decide +kernel
theorem pd_12 : parseMethodDescriptor "(II)Ljava/lang/String;" = some ⟨[.int, .int], some (.object "java/lang/String")⟩ := by decide +kernel
theorem d8_11 : decode prog_11_method_3_code 11 = .ok (.areturn, 1) := by decide +kernel
abbrev y8 : MethodName := ⟨"io/roadcrew/resolve/VersionReader", "major", "(Ljava/lang/String;)Ljava/lang/String;"⟩
theorem pn_5 : plainName "io/roadcrew/resolve/VersionReader" = true := by first | (simp [plainName, overriddenIn]; done) | decide +kernel
set_option maxRecDepth 65536 in
set_option maxHeartbeats 40000000 in
theorem rmM (l : Launch) (Z : State) (a0 : Array Value) (hw : ∀ d ∈ tables_1, d.before a0 Z = true) (ws : List Jvm.Cond) (G1 : Int32) (G3 : Value) (x : Addr) (mm : Int32) (m_ : Nat) (cs cm : List Int32) (h0 : Heap) (n0 : Nat) (O0 : Old Z n0 h0) (S_CS : Sta Z Z.heap "java/lang/String" "COMPACT_STRINGS" "Z" (.int G1)) (hG1 : ¬ (G1 = (0 : Int32))) (S_SF : Sta Z Z.heap "jdk/internal/util/Preconditions" "SIOOBE_FORMATTER" "Ljava/util/function/BiFunction;" G3) (rG3 : G3.isRef = true) (T : Str Z h0 x cs) (e8 : Int32.ofNat cs.length = (8 : Int32)) (hic : IcOK (cs.map (fun c => Value.int (StrChars.lo8 c))) mm) (hcr : CrOK mm m_ (cs.map (fun c => Value.int (StrChars.lo8 c))) (cm.map (fun c => Value.int (StrChars.lo8 c)))) (hkm : mm = Int32.ofNat cm.length) (hpm : ∀ c ∈ cm, ¬ c < 0 ∧ ¬ (255 : Int32) < c) (hlm : cm.length ≤ 4000) :
    MetFree l y8 (head1 (Jvm.Cond.code y8 prog_11_method_3_code 1 (some (.object "java/lang/String")) :: ws) ({ frames := 5, cells := 2, slots := 12, locals := 102 } : Room)) (fun a_ U => a_ = #[(.ref x)] ∧ Z.Warmed39 U.vm ∧ U.heap = h0) (fun _ _ _ _ _ => True) (fun _ U o U' => ∃ v L, o = .returned v ∧ QS Z cm h0 n0 v U'.heap L ∧ FrameEnd U o U' L 2 12) := by
  refine MetFree.of_bodySF (plainFor_of_name pn_5) hisR ?_
  intro p e s m args below meth c s₁ Bd hml0 hP hK
  obtain ⟨rfl, hZ, hh⟩ := hP
  have hx := Bd.exec
  have hby := Bd.bytes
  have hml : c.maxLocals = 1 := hml0
  have hown : s.vm.findClass "io/roadcrew/resolve/VersionReader" = some m.cls := findClass_of_methodNamed Bd.named
  have hnm := (name_of_methodNamed Bd.named Bd.method).1
  have X0 : Stand p l e ({ frames := 5, cells := 2, slots := 12, locals := 102 } : Room) s m #[(.ref x)] below meth c s₁ [] 0 0 := Stand.of_body Bd
  have e0 : s₁.heap = h0 := by rw [← hh, Bd.state]; rfl
  have N0 := Fr.nil n0
  have pre0 : ∀ tg, Steps p.tables e below (s₁.setTop (mkF m 0 #[.val (.ref x)] [])) tg → Steps p.tables e below (s₁.setTop (entryFrame m #[(.ref x)] 1)) tg := fun tg kq => castTop (ef_R_1 m x) kq
  have sE := T.choose_spec.choose_spec.choose_spec.choose_spec.1
  obtain ⟨cq101, kq101, q101a, q101b, q101c⟩ := isOf hZ e0 sE
  obtain ⟨_, _, ⟨T101, L101, k101, n101⟩, -, X101, ⟨Lc101, hQ101, l101, y101, z101⟩, st101⟩ := X0.virtualBack hx (y := y9) (z := y9) hown (mvT hZ (wi hw 38 rfl)) (mvT hZ (wi hw 39 rfl)) (notFace_of_selects (args := #[]) (mvT hZ (wi hw 41 rfl))) (mvT hZ (wi hw 41 rfl)) (mvT hZ (wi hw 40 rfl)) (by decide) (backOf (W := 2) (rmI1 l Z a0 hw [] G1 x mm cs h0 n0 O0 S_CS hG1 T e8 hic) hZ (wi hw 42 rfl) (wi hw 7 rfl) (by decide) (by decide)) q101a q101c (g := (mkF m 5 #[.val (.ref x)] [(.int 46), (.ref x), (.int 0), (.ref x)])) rfl (by rw [hml]; rfl) (Steps.refl _) (argsL := [(.int 46)]) (rest := [(.int 0), (.ref x)]) (lenOf pd_11 rfl) rfl (by show 2 * 0 + _ ≤ _; exact Nat.le_of_eq rfl) (hb hby d8_5) (fun _ _ => ⟨rfl, e0, (by decide : 0 + 0 ≤ _), (by decide : 0 + 0 ≤ _)⟩)
  dsimp only [Pt.U, Pt.locs, Pt.cells, Pt.slots] at X101 l101 y101 z101 st101 hQ101
  subst l101 y101 z101
  obtain ⟨rfl, N101q, hh101⟩ := hQ101
  have e101 : T101.heap = h0 := hh101
  have N101 := Fr.app N0 N101q
  obtain ⟨cq102, kq102, q102a, q102b, q102c⟩ := isOf hZ e101 sE
  obtain ⟨_, _, ⟨T102, L102, k102, n102⟩, -, X102, ⟨Lc102, hQ102, l102, y102, z102⟩, st102⟩ := X101.virtualBack hx (y := y19) (z := y19) hown (mvT hZ (wi hw 80 rfl)) (mvT hZ (wi hw 81 rfl)) (notFace_of_selects (args := #[]) (mvT hZ (wi hw 83 rfl))) (mvT hZ (wi hw 83 rfl)) (mvT hZ (wi hw 82 rfl)) (by decide) (backOf (W := 0) (rmSS l Z a0 hw [] G1 G3 x mm m_ cs cm h0 n0 O0 S_CS hG1 S_SF rG3 T e8 hcr hkm hpm hlm) hZ (wi hw 84 rfl) (wi hw 7 rfl) (by decide) (by decide)) q102a q102c (g := (mkF m 8 #[.val (.ref x)] [(.int mm), (.int 0), (.ref x)])) rfl (by rw [hml]; rfl) (Steps.refl _) (argsL := [(.int 0), (.int mm)]) (rest := []) (lenOf pd_12 rfl) rfl (by show 2 * 0 + _ ≤ _; exact Nat.le_of_eq rfl) (hb hby d8_8) (fun _ _ => ⟨rfl, e101, (by decide : 0 + 2 ≤ _), (by decide : 0 + 12 ≤ _)⟩)
  dsimp only [Pt.U, Pt.locs, Pt.cells, Pt.slots] at X102 l102 y102 z102 st102 hQ102
  subst l102 y102 z102
  obtain ⟨xs102, rfl, N102q, K102, szx102, T102q⟩ := hQ102
  obtain ⟨h102, e102⟩ : ∃ z, T102.heap = z := ⟨_, rfl⟩
  rw [e102] at K102 T102q
  have g_xs102 : n0 ≤ xs102 := Nat.le_trans (O0.1 ▸ O0.2.1) szx102
  have sz_xs102 : h0.size ≤ xs102 := Nat.le_trans (Nat.le_refl _) szx102
  have O102 := O0.keep K102 all0
  have KK102 : Keep h0 h102 [] := (Keep.refl h0 []).trans K102 all0
  have N102 := Fr.app N101 N102q
  obtain ⟨fs, hr, hrun, hended, hW, hsame⟩ := X102.leave (v := some (.ref xs102)) (fun h => by rw [Bd.returns] at h; cases h)
  refine ⟨_, _, pre0 _ ?_, hrun, hended, _, _, rfl, ?_, ⟨_, rfl⟩, hW, hsame.mono (by decide) (by decide)⟩
  · show Steps p.tables e below (s₁.setTop (mkF m 0 #[.val (.ref x)] [])) _
    refine XS.aloadN X0.here hx rfl (hb hby d8_0) rfl rfl ?_
    refine XS.iconst X0.here hx rfl (hb hby d8_1) ?_
    refine XS.aloadN X0.here hx rfl (hb hby d8_2) rfl rfl ?_
    show Steps p.tables e below (s₁.setTop (mkF m 3 #[.val (.ref x)] [(.ref x), (.int 0), (.ref x)])) _
    refine XS.bipush X0.here hx rfl (hb hby d8_3) ?_
    show Steps p.tables e below (s₁.setTop (mkF m 5 #[.val (.ref x)] [(.int 46), (.ref x), (.int 0), (.ref x)])) _
    refine st101.trans ?_
    show Steps p.tables e below (T101.setTop (mkF m 8 #[.val (.ref x)] [(.int mm), (.int 0), (.ref x)])) _
    refine st102.trans ?_
    show Steps p.tables e below (T102.setTop (mkF m 11 #[.val (.ref x)] [(.ref xs102)])) _
    jvm_step X102.here [X102.here.top, hx, (hb hby d8_11), X102.method', Bd.returns, Value.isRef, FieldType.isReference]
    first | (intro acts; rw [hr _ acts rfl rfl rfl]) | rw [hr _ _ rfl rfl rfl]
    exact Steps.refl _
  · show QS Z cm h0 n0 _ T102.heap _
    rw [e102]
    exact ⟨_, rfl, N102, KK102, sz_xs102, T102q⟩
theorem d27_0 : decode method_3_code 0 = .ok (.iload_n 1, 1) := by decide +kernel
theorem d27_1 : decode method_3_code 1 = .ok (.iload_n 2, 1) := by decide +kernel
theorem d27_2 : decode method_3_code 2 = .ok (.if_icmp .ge 16, 3) := by decide +kernel
theorem d27_18 : decode method_3_code 18 = .ok (.iconst 1, 1) := by decide +kernel
theorem d27_19 : decode method_3_code 19 = .ok (.goto 4, 3) := by decide +kernel
theorem d27_23 : decode method_3_code 23 = .ok (.ireturn, 1) := by decide +kernel
abbrev y27 : MethodName := ⟨"io/roadcrew/resolve/VersionReaderMajorPinLaw", "at", "(Ljava/lang/String;III)Z"⟩
set_option maxRecDepth 65536 in
set_option maxHeartbeats 40000000 in
theorem rmA_ge (l : Launch) (Z : State) (a0 : Array Value) (hw : ∀ d ∈ tables_1, d.before a0 Z = true) (ws : List Jvm.Cond) (x : Addr) (j mm pp : Int32) (h0 : Heap) (n0 : Nat) (O0 : Old Z n0 h0) (hj : ¬ (j < mm)) :
    MetFree l y27 (head1 (Jvm.Cond.code y27 method_3_code 4 (some .boolean) :: ws) ({ frames := 0, cells := 0, slots := 0, locals := 0 } : Room)) (fun a_ U => a_ = #[(.ref x), (.int j), (.int mm), (.int pp)] ∧ Z.Warmed39 U.vm ∧ U.heap = h0) (fun _ _ _ _ _ => True) (fun _ U o U' => ∃ v L, o = .returned v ∧ QP (.int (1 : Int32)) h0 n0 v U'.heap L ∧ FrameEnd U o U' L 0 0) := by
  refine MetFree.of_bodySF (plainFor_of_name pn_0) hisR ?_
  intro p e s m args below meth c s₁ Bd hml0 hP hK
  obtain ⟨rfl, hZ, hh⟩ := hP
  have hx := Bd.exec
  have hby := Bd.bytes
  have hml : c.maxLocals = 4 := hml0
  have hown : s.vm.findClass "io/roadcrew/resolve/VersionReaderMajorPinLaw" = some m.cls := findClass_of_methodNamed Bd.named
  have hnm := (name_of_methodNamed Bd.named Bd.method).1
  have X0 : Stand p l e ({ frames := 0, cells := 0, slots := 0, locals := 0 } : Room) s m #[(.ref x), (.int j), (.int mm), (.int pp)] below meth c s₁ [] 0 0 := Stand.of_body Bd
  have e0 : s₁.heap = h0 := by rw [← hh, Bd.state]; rfl
  have N0 := Fr.nil n0
  have pre0 : ∀ tg, Steps p.tables e below (s₁.setTop (mkF m 0 #[.val (.ref x), .val (.int j), .val (.int mm), .val (.int pp)] [])) tg → Steps p.tables e below (s₁.setTop (entryFrame m #[(.ref x), (.int j), (.int mm), (.int pp)] 4)) tg := fun tg kq => castTop (ef_RIII_4 m x j mm pp) kq
  obtain ⟨fs, hr, hrun, hended, hW, hsame⟩ := X0.leave (v := some (.int 1)) (fun h => by rw [Bd.returns] at h; cases h)
  refine ⟨_, _, pre0 _ ?_, hrun, hended, _, _, rfl, ?_, ⟨_, rfl⟩, hW, hsame.mono (by decide) (by decide)⟩
  · show Steps p.tables e below (s₁.setTop (mkF m 0 #[.val (.ref x), .val (.int j), .val (.int mm), .val (.int pp)] [])) _
    refine XS.iloadN X0.here hx rfl (hb hby d27_0) rfl ?_
    refine XS.iloadN X0.here hx rfl (hb hby d27_1) rfl ?_
    refine XS.icmpYes X0.here hx rfl (pc0 := 2) (pc' := 18) rfl (hb hby d27_2) rfl (flt hj).2.1 (by decide) (by decide) ?_
    show Steps p.tables e below (s₁.setTop (mkF m 18 #[.val (.ref x), .val (.int j), .val (.int mm), .val (.int pp)] [])) _
    refine XS.iconst X0.here hx rfl (hb hby d27_18) ?_
    refine XS.goto X0.here hx rfl (pc0 := 19) (pc' := 23) rfl (hb hby d27_19) (by decide) (by decide) ?_
    show Steps p.tables e below (s₁.setTop (mkF m 23 #[.val (.ref x), .val (.int j), .val (.int mm), .val (.int pp)] [(.int 1)])) _
    exact retN X0 hx (t := .boolean) Bd.returns (by simp) (hb hby d27_23) hr
  · show QP (.int (1 : Int32)) h0 n0 _ s₁.heap _
    rw [e0]
    exact ⟨rfl, N0, rfl⟩
theorem d27_5 : decode method_3_code 5 = .ok (.aload_n 0, 1) := by decide +kernel
theorem d27_6 : decode method_3_code 6 = .ok (.iload_n 1, 1) := by decide +kernel
theorem d27_7 : decode method_3_code 7 = .ok (.invokevirtual 7, 3) := by decide +kernel
theorem own_w_chN : ∀ d ∈ StrChars.Road.wordsChN, d ∈ tables_1 := by decide +kernel
theorem pd_13 : parseMethodDescriptor "(I)C" = some ⟨[.int], some .char⟩ := by decide +kernel
abbrev y28 : MethodName := ⟨"java/lang/String", "charAt", "(I)C"⟩
theorem d27_10 : decode method_3_code 10 = .ok (.iload_n 3, 1) := by decide +kernel
theorem d27_11 : decode method_3_code 11 = .ok (.iload_n 1, 1) := by decide +kernel
theorem d27_12 : decode method_3_code 12 = .ok (.invokestatic 13, 3) := by decide +kernel
theorem pd_14 : parseMethodDescriptor "(II)C" = some ⟨[.int, .int], some .char⟩ := by decide +kernel
theorem d27_15 : decode method_3_code 15 = .ok (.if_icmp .ne 7, 3) := by decide +kernel
set_option maxRecDepth 65536 in
set_option maxHeartbeats 40000000 in
theorem rmA_lt (l : Launch) (Z : State) (a0 : Array Value) (hw : ∀ d ∈ tables_1, d.before a0 Z = true) (ws : List Jvm.Cond) (G1 : Int32) (G3 : Value) (x : Addr) (j mm pp : Int32) (i : Nat) (cs : List Int32) (h0 : Heap) (n0 : Nat) (O0 : Old Z n0 h0) (S_CS : Sta Z Z.heap "java/lang/String" "COMPACT_STRINGS" "Z" (.int G1)) (hG1 : ¬ (G1 = (0 : Int32))) (S_SF : Sta Z Z.heap "jdk/internal/util/Preconditions" "SIOOBE_FORMATTER" "Ljava/util/function/BiFunction;" G3) (rG3 : G3.isRef = true) (T : Str Z h0 x cs) (hj : j < mm) (hji : j = Int32.ofNat i) (hi : i < cs.length) (hc : cs.getD i 0 = dig pp j) :
    MetFree l y27 (head1 (Jvm.Cond.code y27 method_3_code 4 (some .boolean) :: ws) ({ frames := 4, cells := 0, slots := 0, locals := 53 } : Room)) (fun a_ U => a_ = #[(.ref x), (.int j), (.int mm), (.int pp)] ∧ Z.Warmed39 U.vm ∧ U.heap = h0) (fun _ _ _ _ _ => True) (fun _ U o U' => ∃ v L, o = .returned v ∧ QP (.int (1 : Int32)) h0 n0 v U'.heap L ∧ FrameEnd U o U' L 0 0) := by
  refine MetFree.of_bodySF (plainFor_of_name pn_0) hisR ?_
  intro p e s m args below meth c s₁ Bd hml0 hP hK
  obtain ⟨rfl, hZ, hh⟩ := hP
  have hx := Bd.exec
  have hby := Bd.bytes
  have hml : c.maxLocals = 4 := hml0
  have hown : s.vm.findClass "io/roadcrew/resolve/VersionReaderMajorPinLaw" = some m.cls := findClass_of_methodNamed Bd.named
  have hnm := (name_of_methodNamed Bd.named Bd.method).1
  have X0 : Stand p l e ({ frames := 4, cells := 0, slots := 0, locals := 53 } : Room) s m #[(.ref x), (.int j), (.int mm), (.int pp)] below meth c s₁ [] 0 0 := Stand.of_body Bd
  have e0 : s₁.heap = h0 := by rw [← hh, Bd.state]; rfl
  have N0 := Fr.nil n0
  have pre0 : ∀ tg, Steps p.tables e below (s₁.setTop (mkF m 0 #[.val (.ref x), .val (.int j), .val (.int mm), .val (.int pp)] [])) tg → Steps p.tables e below (s₁.setTop (entryFrame m #[(.ref x), (.int j), (.int mm), (.int pp)] 4)) tg := fun tg kq => castTop (ef_RIII_4 m x j mm pp) kq
  obtain ⟨ta, kba, Na, vsa, sEa, sVa, sCa, sKa, scda, shpa, shla⟩ := id T
  obtain ⟨cq101, kq101, q101a, q101b, q101c⟩ := isOf hZ e0 sEa
  obtain ⟨_, _, ⟨T101, L101, k101, n101⟩, -, X101, ⟨Lc101, hQ101, l101, y101, z101⟩, st101⟩ := X0.virtualBack hx (y := y28) (z := y28) hown (mvT hZ (wi hw 119 rfl)) (mvT hZ (wi hw 120 rfl)) (notFace_of_selects (args := #[]) (mvT hZ (wi hw 122 rfl))) (mvT hZ (wi hw 122 rfl)) (mvT hZ (wi hw 121 rfl)) (by decide) (StrChars.Road.chN (W := 0) hZ (fun d hd => hw d (own_w_chN d hd)) (kI := 4) (wi hw 6 rfl) sEa sVa sCa sKa scda (own_up _ shpa) (S_CS.ext O0.2) hG1 (S_SF.ext O0.2) rG3 shla (i := i) hi (j := j) hji (by decide) (by decide)) q101a q101c (g := (mkF m 7 #[.val (.ref x), .val (.int j), .val (.int mm), .val (.int pp)] [(.int j), (.ref x)])) rfl (by rw [hml]; rfl) (Steps.refl _) (argsL := [(.int j)]) (rest := []) (lenOf pd_13 rfl) rfl (by show 2 * 0 + _ ≤ _; exact Nat.le_of_eq rfl) (hb hby d27_7) (fun _ _ => ⟨rfl, e0, (by decide : 0 + 0 ≤ _), (by decide : 0 + 0 ≤ _)⟩)
  dsimp only [Pt.U, Pt.locs, Pt.cells, Pt.slots] at X101 l101 y101 z101 st101 hQ101
  subst l101 y101 z101
  obtain ⟨rfl, rfl, hh101⟩ := hQ101
  have N101q : Fr n0 ([] : List Loc) := Fr.nil n0
  have e101 : T101.heap = h0 := hh101
  have N101 := Fr.app N0 N101q
  obtain ⟨_, _, ⟨T102, L102, k102, n102⟩, -, X102, ⟨Lc102, hQ102, l102, y102, z102⟩, st102⟩ := Jvm.LawKit.callS X101 hx (y := y1) hown (mvT hZ (wi hw 1 rfl)) (mvT hZ (wi hw 2 rfl)) (mvT hZ (wi hw 3 rfl)) (mvT hZ (wi hw 4 rfl)) (by decide) (backOf (W := 1) (rmD l Z a0 hw [] pp j (dig pp j) h0 n0 O0 rfl) hZ (wi hw 4 rfl) (wi hw 3 rfl) (by decide) (by decide)) (g := (mkF m 12 #[.val (.ref x), .val (.int j), .val (.int mm), .val (.int pp)] [(.int j), (.int pp), (.int (cs.getD i 0))])) rfl (by rw [hml]; rfl) (argsL := [(.int pp), (.int j)]) (rest := [(.int (cs.getD i 0))]) (lenOf pd_14 rfl) rfl (by show 2 * 0 + _ ≤ _; exact Nat.le_of_eq rfl) (hb hby d27_12) (fun _ _ => ⟨rfl, e101, (by decide : 0 + 0 ≤ _), (by decide : 0 + 0 ≤ _)⟩)
  dsimp only [Pt.U, Pt.locs, Pt.cells, Pt.slots] at X102 l102 y102 z102 st102 hQ102
  subst l102 y102 z102
  obtain ⟨rfl, N102q, hh102⟩ := hQ102
  have e102 : T102.heap = h0 := hh102
  have N102 := Fr.app N101 N102q
  obtain ⟨fs, hr, hrun, hended, hW, hsame⟩ := X102.leave (v := some (.int 1)) (fun h => by rw [Bd.returns] at h; cases h)
  refine ⟨_, _, pre0 _ ?_, hrun, hended, _, _, rfl, ?_, ⟨_, rfl⟩, hW, hsame.mono (by decide) (by decide)⟩
  · show Steps p.tables e below (s₁.setTop (mkF m 0 #[.val (.ref x), .val (.int j), .val (.int mm), .val (.int pp)] [])) _
    refine XS.iloadN X0.here hx rfl (hb hby d27_0) rfl ?_
    refine XS.iloadN X0.here hx rfl (hb hby d27_1) rfl ?_
    refine XS.icmpNo X0.here hx rfl (hb hby d27_2) rfl (tlt hj).2.1 ?_
    show Steps p.tables e below (s₁.setTop (mkF m 5 #[.val (.ref x), .val (.int j), .val (.int mm), .val (.int pp)] [])) _
    refine XS.aloadN X0.here hx rfl (hb hby d27_5) rfl rfl ?_
    refine XS.iloadN X0.here hx rfl (hb hby d27_6) rfl ?_
    show Steps p.tables e below (s₁.setTop (mkF m 7 #[.val (.ref x), .val (.int j), .val (.int mm), .val (.int pp)] [(.int j), (.ref x)])) _
    refine st101.trans ?_
    show Steps p.tables e below (T101.setTop (mkF m 10 #[.val (.ref x), .val (.int j), .val (.int mm), .val (.int pp)] [(.int (cs.getD i 0))])) _
    refine XS.iloadN X101.here hx rfl (hb hby d27_10) rfl ?_
    refine XS.iloadN X101.here hx rfl (hb hby d27_11) rfl ?_
    show Steps p.tables e below (T101.setTop (mkF m 12 #[.val (.ref x), .val (.int j), .val (.int mm), .val (.int pp)] [(.int j), (.int pp), (.int (cs.getD i 0))])) _
    refine st102 _ ?_
    show Steps p.tables e below (T102.setTop (mkF m 15 #[.val (.ref x), .val (.int j), .val (.int mm), .val (.int pp)] [(.int (dig pp j)), (.int (cs.getD i 0))])) _
    refine XS.icmpNo X102.here hx rfl (hb hby d27_15) rfl (teq hc).2 ?_
    refine XS.iconst X102.here hx rfl (hb hby d27_18) ?_
    refine XS.goto X102.here hx rfl (pc0 := 19) (pc' := 23) rfl (hb hby d27_19) (by decide) (by decide) ?_
    show Steps p.tables e below (T102.setTop (mkF m 23 #[.val (.ref x), .val (.int j), .val (.int mm), .val (.int pp)] [(.int 1)])) _
    exact retN X102 hx (t := .boolean) Bd.returns (by simp) (hb hby d27_23) hr
  · show QP (.int (1 : Int32)) h0 n0 _ T102.heap _
    rw [e102]
    exact ⟨rfl, N102, rfl⟩
def Q0 (h0 : Heap) (n0 : Nat) (v : Option Value) (h : Heap) (L : List Loc) : Prop := v = some (.int (1 : Int32)) ∧ Fr n0 L
theorem own_dd {d x i : Int32} (h : d = dig x i) : (¬ d < 0 ∧ ¬ (255 : Int32) < d) ∧ ¬ d.toInt8.toInt32 = 46 := h ▸ own_dig x i
set_option maxRecDepth 65536 in
theorem seg10_t {p : Program} {l : Launch} {e : Env} {R : Room} {s : State} {m : MethodId} {args : Array Value} {below : List Frame} {meth : Method} {c : Code} {T : State} {locs : List Loc} {cells slots : Nat} (X : Stand p l e R s m args below meth c T locs cells slots) (hx : p.tables.exec = Jvm.exec) (hby : c.code = code) (p1 p2 x2 : Int32) (hc14 : (p2 &&& (8 : Int32)) = (0 : Int32)) {target : State} (k : Steps p.tables e below (T.setTop (mkF m 22 #[.val (.int p1), .val (.int p2), .val (.int x2), .unset, .unset, .unset, .unset] [(.int 0)])) target) : Steps p.tables e below (T.setTop (mkF m 10 #[.val (.int p1), .val (.int p2), .val (.int x2), .unset, .unset, .unset, .unset] [])) target := by
  show Steps p.tables e below (T.setTop (mkF m 10 #[.val (.int p1), .val (.int p2), .val (.int x2), .unset, .unset, .unset, .unset] [])) _
  refine XS.iloadN X.here hx rfl (hb hby at_10) rfl ?_
  show Steps p.tables e below (T.setTop (mkF m 11 #[.val (.int p1), .val (.int p2), .val (.int x2), .unset, .unset, .unset, .unset] [(.int p2)])) _
  refine XS.bipush X.here hx rfl (hb hby at_11) ?_
  show Steps p.tables e below (T.setTop (mkF m 13 #[.val (.int p1), .val (.int p2), .val (.int x2), .unset, .unset, .unset, .unset] [(.int 8), (.int p2)])) _
  refine XS.iand X.here hx rfl (hb hby at_13) rfl ?_
  show Steps p.tables e below (T.setTop (mkF m 14 #[.val (.int p1), .val (.int p2), .val (.int x2), .unset, .unset, .unset, .unset] [(.int (p2 &&& (8 : Int32)))])) _
  refine XS.ifYes X.here hx rfl (pc0 := 14) (pc' := 21) rfl (hb hby at_14) rfl ((if0 _ _).trans (teq hc14).1) (by decide) (by decide) ?_
  show Steps p.tables e below (T.setTop (mkF m 21 #[.val (.int p1), .val (.int p2), .val (.int x2), .unset, .unset, .unset, .unset] [])) _
  refine XS.iconst X.here hx rfl (hb hby at_21) ?_
  exact k
set_option maxRecDepth 65536 in
theorem seg10_f {p : Program} {l : Launch} {e : Env} {R : Room} {s : State} {m : MethodId} {args : Array Value} {below : List Frame} {meth : Method} {c : Code} {T : State} {locs : List Loc} {cells slots : Nat} (X : Stand p l e R s m args below meth c T locs cells slots) (hx : p.tables.exec = Jvm.exec) (hby : c.code = code) (p1 p2 x2 : Int32) (hc14 : ¬ ((p2 &&& (8 : Int32)) = (0 : Int32))) {target : State} (k : Steps p.tables e below (T.setTop (mkF m 22 #[.val (.int p1), .val (.int p2), .val (.int x2), .unset, .unset, .unset, .unset] [(.int 1)])) target) : Steps p.tables e below (T.setTop (mkF m 10 #[.val (.int p1), .val (.int p2), .val (.int x2), .unset, .unset, .unset, .unset] [])) target := by
  show Steps p.tables e below (T.setTop (mkF m 10 #[.val (.int p1), .val (.int p2), .val (.int x2), .unset, .unset, .unset, .unset] [])) _
  refine XS.iloadN X.here hx rfl (hb hby at_10) rfl ?_
  show Steps p.tables e below (T.setTop (mkF m 11 #[.val (.int p1), .val (.int p2), .val (.int x2), .unset, .unset, .unset, .unset] [(.int p2)])) _
  refine XS.bipush X.here hx rfl (hb hby at_11) ?_
  show Steps p.tables e below (T.setTop (mkF m 13 #[.val (.int p1), .val (.int p2), .val (.int x2), .unset, .unset, .unset, .unset] [(.int 8), (.int p2)])) _
  refine XS.iand X.here hx rfl (hb hby at_13) rfl ?_
  show Steps p.tables e below (T.setTop (mkF m 14 #[.val (.int p1), .val (.int p2), .val (.int x2), .unset, .unset, .unset, .unset] [(.int (p2 &&& (8 : Int32)))])) _
  refine XS.ifNo X.here hx rfl (hb hby at_14) rfl ((if0 _ _).trans (feq hc14).1) ?_
  show Steps p.tables e below (T.setTop (mkF m 17 #[.val (.int p1), .val (.int p2), .val (.int x2), .unset, .unset, .unset, .unset] [])) _
  refine XS.iconst X.here hx rfl (hb hby at_17) ?_
  show Steps p.tables e below (T.setTop (mkF m 18 #[.val (.int p1), .val (.int p2), .val (.int x2), .unset, .unset, .unset, .unset] [(.int 1)])) _
  refine XS.goto X.here hx rfl (pc0 := 18) (pc' := 22) rfl (hb hby at_18) (by decide) (by decide) ?_
  exact k
theorem seg10 {p : Program} {l : Launch} {e : Env} {R : Room} {s : State} {m : MethodId} {args : Array Value} {below : List Frame} {meth : Method} {c : Code} {T : State} {locs : List Loc} {cells slots : Nat} (X : Stand p l e R s m args below meth c T locs cells slots) (hx : p.tables.exec = Jvm.exec) (hby : c.code = code) (p1 p2 x2 x3 : Int32) (hv : x3 = if (p2 &&& (8 : Int32)) = (0 : Int32) then (0 : Int32) else (1 : Int32)) {target : State} (k : Steps p.tables e below (T.setTop (mkF m 22 #[.val (.int p1), .val (.int p2), .val (.int x2), .unset, .unset, .unset, .unset] [(.int x3)])) target) : Steps p.tables e below (T.setTop (mkF m 10 #[.val (.int p1), .val (.int p2), .val (.int x2), .unset, .unset, .unset, .unset] [])) target := by
  by_cases hb : (p2 &&& (8 : Int32)) = (0 : Int32)
  · rw [if_pos hb] at hv; rw [hv] at k; exact seg10_t X hx hby p1 p2 x2 hb k
  · rw [if_neg hb] at hv; rw [hv] at k; exact seg10_f X hx hby p1 p2 x2 hb k
set_option maxRecDepth 65536 in
theorem seg23_t {p : Program} {l : Launch} {e : Env} {R : Room} {s : State} {m : MethodId} {args : Array Value} {below : List Frame} {meth : Method} {c : Code} {T : State} {locs : List Loc} {cells slots : Nat} (X : Stand p l e R s m args below meth c T locs cells slots) (hx : p.tables.exec = Jvm.exec) (hby : c.code = code) (p1 p2 x2 x3 : Int32) (hc27 : (p2 &&& (16 : Int32)) = (0 : Int32)) {target : State} (k : Steps p.tables e below (T.setTop (mkF m 35 #[.val (.int p1), .val (.int p2), .val (.int x2), .val (.int x3), .unset, .unset, .unset] [(.int 0)])) target) : Steps p.tables e below (T.setTop (mkF m 23 #[.val (.int p1), .val (.int p2), .val (.int x2), .val (.int x3), .unset, .unset, .unset] [])) target := by
  show Steps p.tables e below (T.setTop (mkF m 23 #[.val (.int p1), .val (.int p2), .val (.int x2), .val (.int x3), .unset, .unset, .unset] [])) _
  refine XS.iloadN X.here hx rfl (hb hby at_23) rfl ?_
  show Steps p.tables e below (T.setTop (mkF m 24 #[.val (.int p1), .val (.int p2), .val (.int x2), .val (.int x3), .unset, .unset, .unset] [(.int p2)])) _
  refine XS.bipush X.here hx rfl (hb hby at_24) ?_
  show Steps p.tables e below (T.setTop (mkF m 26 #[.val (.int p1), .val (.int p2), .val (.int x2), .val (.int x3), .unset, .unset, .unset] [(.int 16), (.int p2)])) _
  refine XS.iand X.here hx rfl (hb hby at_26) rfl ?_
  show Steps p.tables e below (T.setTop (mkF m 27 #[.val (.int p1), .val (.int p2), .val (.int x2), .val (.int x3), .unset, .unset, .unset] [(.int (p2 &&& (16 : Int32)))])) _
  refine XS.ifYes X.here hx rfl (pc0 := 27) (pc' := 34) rfl (hb hby at_27) rfl ((if0 _ _).trans (teq hc27).1) (by decide) (by decide) ?_
  show Steps p.tables e below (T.setTop (mkF m 34 #[.val (.int p1), .val (.int p2), .val (.int x2), .val (.int x3), .unset, .unset, .unset] [])) _
  refine XS.iconst X.here hx rfl (hb hby at_34) ?_
  exact k
set_option maxRecDepth 65536 in
theorem seg23_f {p : Program} {l : Launch} {e : Env} {R : Room} {s : State} {m : MethodId} {args : Array Value} {below : List Frame} {meth : Method} {c : Code} {T : State} {locs : List Loc} {cells slots : Nat} (X : Stand p l e R s m args below meth c T locs cells slots) (hx : p.tables.exec = Jvm.exec) (hby : c.code = code) (p1 p2 x2 x3 : Int32) (hc27 : ¬ ((p2 &&& (16 : Int32)) = (0 : Int32))) {target : State} (k : Steps p.tables e below (T.setTop (mkF m 35 #[.val (.int p1), .val (.int p2), .val (.int x2), .val (.int x3), .unset, .unset, .unset] [(.int 1)])) target) : Steps p.tables e below (T.setTop (mkF m 23 #[.val (.int p1), .val (.int p2), .val (.int x2), .val (.int x3), .unset, .unset, .unset] [])) target := by
  show Steps p.tables e below (T.setTop (mkF m 23 #[.val (.int p1), .val (.int p2), .val (.int x2), .val (.int x3), .unset, .unset, .unset] [])) _
  refine XS.iloadN X.here hx rfl (hb hby at_23) rfl ?_
  show Steps p.tables e below (T.setTop (mkF m 24 #[.val (.int p1), .val (.int p2), .val (.int x2), .val (.int x3), .unset, .unset, .unset] [(.int p2)])) _
  refine XS.bipush X.here hx rfl (hb hby at_24) ?_
  show Steps p.tables e below (T.setTop (mkF m 26 #[.val (.int p1), .val (.int p2), .val (.int x2), .val (.int x3), .unset, .unset, .unset] [(.int 16), (.int p2)])) _
  refine XS.iand X.here hx rfl (hb hby at_26) rfl ?_
  show Steps p.tables e below (T.setTop (mkF m 27 #[.val (.int p1), .val (.int p2), .val (.int x2), .val (.int x3), .unset, .unset, .unset] [(.int (p2 &&& (16 : Int32)))])) _
  refine XS.ifNo X.here hx rfl (hb hby at_27) rfl ((if0 _ _).trans (feq hc27).1) ?_
  show Steps p.tables e below (T.setTop (mkF m 30 #[.val (.int p1), .val (.int p2), .val (.int x2), .val (.int x3), .unset, .unset, .unset] [])) _
  refine XS.iconst X.here hx rfl (hb hby at_30) ?_
  show Steps p.tables e below (T.setTop (mkF m 31 #[.val (.int p1), .val (.int p2), .val (.int x2), .val (.int x3), .unset, .unset, .unset] [(.int 1)])) _
  refine XS.goto X.here hx rfl (pc0 := 31) (pc' := 35) rfl (hb hby at_31) (by decide) (by decide) ?_
  exact k
theorem seg23 {p : Program} {l : Launch} {e : Env} {R : Room} {s : State} {m : MethodId} {args : Array Value} {below : List Frame} {meth : Method} {c : Code} {T : State} {locs : List Loc} {cells slots : Nat} (X : Stand p l e R s m args below meth c T locs cells slots) (hx : p.tables.exec = Jvm.exec) (hby : c.code = code) (p1 p2 x2 x3 x4 : Int32) (hv : x4 = if (p2 &&& (16 : Int32)) = (0 : Int32) then (0 : Int32) else (1 : Int32)) {target : State} (k : Steps p.tables e below (T.setTop (mkF m 35 #[.val (.int p1), .val (.int p2), .val (.int x2), .val (.int x3), .unset, .unset, .unset] [(.int x4)])) target) : Steps p.tables e below (T.setTop (mkF m 23 #[.val (.int p1), .val (.int p2), .val (.int x2), .val (.int x3), .unset, .unset, .unset] [])) target := by
  by_cases hb : (p2 &&& (16 : Int32)) = (0 : Int32)
  · rw [if_pos hb] at hv; rw [hv] at k; exact seg23_t X hx hby p1 p2 x2 x3 hb k
  · rw [if_neg hb] at hv; rw [hv] at k; exact seg23_f X hx hby p1 p2 x2 x3 hb k
set_option maxRecDepth 65536 in
set_option maxHeartbeats 40000000 in
theorem sg1 (l : Launch) (Z : State) (a0 : Array Value) (hw : ∀ d ∈ tables_1, d.before a0 Z = true) (p1 p2 x2 x3 x4 : Int32) (d0 d1 d2 d3 d4 d5 d6 d7 : Int32) {p : Program} {e : Env} {s : State} {m : MethodId} {args : Array Value} {below : List Frame} {meth : Method} {c : Code} {T0 : State} {L0 : List Loc} (h0 : Heap) (n0 : Nat) (O0 : Old Z n0 h0) (hx : p.tables.exec = Jvm.exec) (hby : c.code = code) (hml : c.maxLocals = 7) (hown : s.vm.findClass "io/roadcrew/resolve/VersionReaderMajorPinLaw" = some m.cls) (hZ : Z.Warmed39 s.vm) (X0 : Stand p l e room_1 s m args below meth c T0 L0 0 0) (e0 : T0.heap = h0) (N0 : Fr n0 L0) (hd0 : d0 = dig p1 (0 : Int32)) (hd1 : d1 = dig p1 (1 : Int32)) (hd2 : d2 = dig p1 (2 : Int32)) (hd3 : d3 = dig p1 (3 : Int32)) (hd4 : d4 = dig p1 (4 : Int32)) (hd5 : d5 = dig p1 (5 : Int32)) (hd6 : d6 = dig p1 (6 : Int32)) (hd7 : d7 = dig p1 (7 : Int32)) :
    ∃ (T' : State) (h' : Heap) (L' : List Loc) (b : Addr) (kb : ClassId), Stand p l e room_1 s m args below meth c T' L' 1 8 ∧ T'.heap = h' ∧ Fr n0 L' ∧ Keep h0 h' [] ∧ h0.size ≤ b ∧ Arv Z h' b kb .char (8 : Int32) [(.int d0), (.int d1), (.int d2), (.int d3), (.int d4), (.int d5), (.int d6), (.int d7)] (.int (0 : Int32)) ∧ (∀ target, Steps p.tables e below (T'.setTop (mkF m 119 #[.val (.int p1), .val (.int p2), .val (.int x2), .val (.int x3), .val (.int x4), .val (.ref b), .unset] [])) target → Steps p.tables e below (T0.setTop (mkF m 37 #[.val (.int p1), .val (.int p2), .val (.int x2), .val (.int x3), .val (.int x4), .unset, .unset] [])) target) := by
  obtain ⟨T101, h101, k101, X101, e101, E101, A101, st101⟩ := newP X0 hx hZ (wi hw 0 rfl) e0 (g := (mkF m 39 #[.val (.int p1), .val (.int p2), .val (.int x2), .val (.int x3), .val (.int x4), .unset, .unset] [(.int 8)])) rfl (hb hby at_39) rfl (by decide) (cap := 8) (by decide) (by decide) (by decide) (by decide)
  obtain ⟨b101, g101⟩ : ∃ z, z = h0.size := ⟨_, rfl⟩
  rw [← g101] at A101 st101
  have g_b101 : n0 ≤ b101 := Nat.le_trans (O0.1 ▸ O0.2.1) (Nat.le_of_eq g101.symm)
  have sz_b101 : h0.size ≤ b101 := Nat.le_trans (Nat.le_refl _) (Nat.le_of_eq g101.symm)
  have O101 := O0.ext E101
  have KK101 : Keep h0 h101 [] := (Keep.refl h0 []).ext E101
  have V_b101 : Arv Z h101 b101 k101 .char (8 : Int32) [(.int 0), (.int 0), (.int 0), (.int 0), (.int 0), (.int 0), (.int 0), (.int 0)] (.int 0) := (Arv.new A101 (by decide)).pad (pad_rep [] (.int 0) 8)
  obtain ⟨_, _, ⟨T102, L102, k102, n102⟩, -, X102, ⟨Lc102, hQ102, l102, y102, z102⟩, st102⟩ := Jvm.LawKit.callS X101 hx (y := y1) hown (mvT hZ (wi hw 1 rfl)) (mvT hZ (wi hw 2 rfl)) (mvT hZ (wi hw 3 rfl)) (mvT hZ (wi hw 4 rfl)) (by decide) (backOf (W := 2) (rmD l Z a0 hw [] p1 (0 : Int32) d0 h101 n0 O101 hd0) hZ (wi hw 4 rfl) (wi hw 3 rfl) (by decide) (by decide)) (g := (mkF m 48 #[.val (.int p1), .val (.int p2), .val (.int x2), .val (.int x3), .val (.int x4), .val (.ref b101), .unset] [(.int 0), (.int p1), (.int 0), (.ref b101)])) rfl (by rw [hml]; rfl) (argsL := [(.int p1), (.int 0)]) (rest := [(.int 0), (.ref b101)]) (lenOf pd_14 rfl) rfl (by show 2 * 0 + _ ≤ _; exact Nat.le_of_eq rfl) (hb hby at_48) (fun _ _ => ⟨rfl, e101, (by decide : 1 + 0 ≤ _), (by decide : 8 + 0 ≤ _)⟩)
  dsimp only [Pt.U, Pt.locs, Pt.cells, Pt.slots] at X102 l102 y102 z102 st102 hQ102
  subst l102 y102 z102
  obtain ⟨rfl, N102q, hh102⟩ := hQ102
  have e102 : T102.heap = h101 := hh102
  have N102 := Fr.app N0 N102q
  obtain ⟨cl_b101_17, Ar_b101_17, q_b101_17, S_b101_17, N_b101_17, H_b101_17, G_b101_17⟩ := id (V_b101)
  have hinb101_17 : ¬ ((0 : Int32) < 0 ∨ cl_b101_17.slots.size ≤ ((0 : Int32)).toNatClampNeg) := inb_of S_b101_17 ⟨by decide, by decide⟩
  obtain ⟨T103, h103, X103, e103, W103, st103⟩ := stC X102 hx hZ e102 Ar_b101_17 (j := (0 : Int32)) hinb101_17 (g := (mkF m 51 #[.val (.int p1), .val (.int p2), .val (.int x2), .val (.int x3), .val (.int x4), .val (.ref b101), .unset] [(.int d0), (.int 0), (.ref b101)])) rfl rfl (hb hby at_51)
  have V_b101_103 : Arv Z h103 b101 k101 .char (8 : Int32) [(.int (nar .char d0)), (.int 0), (.int 0), (.int 0), (.int 0), (.int 0), (.int 0), (.int 0)] (.int 0) := Arv.set Ar_b101_17 q_b101_17 S_b101_17 N_b101_17 H_b101_17 G_b101_17 (fits_nar_char _) W103 0 rfl (Nat.le_of_ble_eq_true rfl)
  have V_b101_103' : Arv Z h103 b101 k101 .char (8 : Int32) [(.int d0), (.int 0), (.int 0), (.int 0), (.int 0), (.int 0), (.int 0), (.int 0)] (.int 0) := by have q := V_b101_103; rw [own_nar (own_dd hd0).1] at q; exact q
  have O103 := O101.wr W103 g_b101
  have KK103 : Keep h0 h103 [] := KK101.wr W103 (Or.inr sz_b101)
  have N103 := Fr.snoc X103 N102 g_b101
  obtain ⟨_, _, ⟨T104, L104, k104, n104⟩, -, X104, ⟨Lc104, hQ104, l104, y104, z104⟩, st104⟩ := Jvm.LawKit.callS X103 hx (y := y1) hown (mvT hZ (wi hw 1 rfl)) (mvT hZ (wi hw 2 rfl)) (mvT hZ (wi hw 3 rfl)) (mvT hZ (wi hw 4 rfl)) (by decide) (backOf (W := 2) (rmD l Z a0 hw [] p1 (1 : Int32) d1 h103 n0 O103 hd1) hZ (wi hw 4 rfl) (wi hw 3 rfl) (by decide) (by decide)) (g := (mkF m 57 #[.val (.int p1), .val (.int p2), .val (.int x2), .val (.int x3), .val (.int x4), .val (.ref b101), .unset] [(.int 1), (.int p1), (.int 1), (.ref b101)])) rfl (by rw [hml]; rfl) (argsL := [(.int p1), (.int 1)]) (rest := [(.int 1), (.ref b101)]) (lenOf pd_14 rfl) rfl (by show 2 * 0 + _ ≤ _; exact Nat.le_of_eq rfl) (hb hby at_57) (fun _ _ => ⟨rfl, e103, (by decide : 1 + 0 ≤ _), (by decide : 8 + 0 ≤ _)⟩)
  dsimp only [Pt.U, Pt.locs, Pt.cells, Pt.slots] at X104 l104 y104 z104 st104 hQ104
  subst l104 y104 z104
  obtain ⟨rfl, N104q, hh104⟩ := hQ104
  have e104 : T104.heap = h103 := hh104
  have N104 := Fr.app N103 N104q
  obtain ⟨cl_b101_29, Ar_b101_29, q_b101_29, S_b101_29, N_b101_29, H_b101_29, G_b101_29⟩ := id (V_b101_103')
  have hinb101_29 : ¬ ((1 : Int32) < 0 ∨ cl_b101_29.slots.size ≤ ((1 : Int32)).toNatClampNeg) := inb_of S_b101_29 ⟨by decide, by decide⟩
  obtain ⟨T105, h105, X105, e105, W105, st105⟩ := stC X104 hx hZ e104 Ar_b101_29 (j := (1 : Int32)) hinb101_29 (g := (mkF m 60 #[.val (.int p1), .val (.int p2), .val (.int x2), .val (.int x3), .val (.int x4), .val (.ref b101), .unset] [(.int d1), (.int 1), (.ref b101)])) rfl rfl (hb hby at_60)
  have V_b101_105 : Arv Z h105 b101 k101 .char (8 : Int32) [(.int d0), (.int (nar .char d1)), (.int 0), (.int 0), (.int 0), (.int 0), (.int 0), (.int 0)] (.int 0) := Arv.set Ar_b101_29 q_b101_29 S_b101_29 N_b101_29 H_b101_29 G_b101_29 (fits_nar_char _) W105 1 rfl (Nat.le_of_ble_eq_true rfl)
  have V_b101_105' : Arv Z h105 b101 k101 .char (8 : Int32) [(.int d0), (.int d1), (.int 0), (.int 0), (.int 0), (.int 0), (.int 0), (.int 0)] (.int 0) := by have q := V_b101_105; rw [own_nar (own_dd hd1).1] at q; exact q
  have O105 := O103.wr W105 g_b101
  have KK105 : Keep h0 h105 [] := KK103.wr W105 (Or.inr sz_b101)
  have N105 := Fr.snoc X105 N104 g_b101
  obtain ⟨_, _, ⟨T106, L106, k106, n106⟩, -, X106, ⟨Lc106, hQ106, l106, y106, z106⟩, st106⟩ := Jvm.LawKit.callS X105 hx (y := y1) hown (mvT hZ (wi hw 1 rfl)) (mvT hZ (wi hw 2 rfl)) (mvT hZ (wi hw 3 rfl)) (mvT hZ (wi hw 4 rfl)) (by decide) (backOf (W := 2) (rmD l Z a0 hw [] p1 (2 : Int32) d2 h105 n0 O105 hd2) hZ (wi hw 4 rfl) (wi hw 3 rfl) (by decide) (by decide)) (g := (mkF m 66 #[.val (.int p1), .val (.int p2), .val (.int x2), .val (.int x3), .val (.int x4), .val (.ref b101), .unset] [(.int 2), (.int p1), (.int 2), (.ref b101)])) rfl (by rw [hml]; rfl) (argsL := [(.int p1), (.int 2)]) (rest := [(.int 2), (.ref b101)]) (lenOf pd_14 rfl) rfl (by show 2 * 0 + _ ≤ _; exact Nat.le_of_eq rfl) (hb hby at_66) (fun _ _ => ⟨rfl, e105, (by decide : 1 + 0 ≤ _), (by decide : 8 + 0 ≤ _)⟩)
  dsimp only [Pt.U, Pt.locs, Pt.cells, Pt.slots] at X106 l106 y106 z106 st106 hQ106
  subst l106 y106 z106
  obtain ⟨rfl, N106q, hh106⟩ := hQ106
  have e106 : T106.heap = h105 := hh106
  have N106 := Fr.app N105 N106q
  obtain ⟨cl_b101_41, Ar_b101_41, q_b101_41, S_b101_41, N_b101_41, H_b101_41, G_b101_41⟩ := id (V_b101_105')
  have hinb101_41 : ¬ ((2 : Int32) < 0 ∨ cl_b101_41.slots.size ≤ ((2 : Int32)).toNatClampNeg) := inb_of S_b101_41 ⟨by decide, by decide⟩
  obtain ⟨T107, h107, X107, e107, W107, st107⟩ := stC X106 hx hZ e106 Ar_b101_41 (j := (2 : Int32)) hinb101_41 (g := (mkF m 69 #[.val (.int p1), .val (.int p2), .val (.int x2), .val (.int x3), .val (.int x4), .val (.ref b101), .unset] [(.int d2), (.int 2), (.ref b101)])) rfl rfl (hb hby at_69)
  have V_b101_107 : Arv Z h107 b101 k101 .char (8 : Int32) [(.int d0), (.int d1), (.int (nar .char d2)), (.int 0), (.int 0), (.int 0), (.int 0), (.int 0)] (.int 0) := Arv.set Ar_b101_41 q_b101_41 S_b101_41 N_b101_41 H_b101_41 G_b101_41 (fits_nar_char _) W107 2 rfl (Nat.le_of_ble_eq_true rfl)
  have V_b101_107' : Arv Z h107 b101 k101 .char (8 : Int32) [(.int d0), (.int d1), (.int d2), (.int 0), (.int 0), (.int 0), (.int 0), (.int 0)] (.int 0) := by have q := V_b101_107; rw [own_nar (own_dd hd2).1] at q; exact q
  have O107 := O105.wr W107 g_b101
  have KK107 : Keep h0 h107 [] := KK105.wr W107 (Or.inr sz_b101)
  have N107 := Fr.snoc X107 N106 g_b101
  obtain ⟨_, _, ⟨T108, L108, k108, n108⟩, -, X108, ⟨Lc108, hQ108, l108, y108, z108⟩, st108⟩ := Jvm.LawKit.callS X107 hx (y := y1) hown (mvT hZ (wi hw 1 rfl)) (mvT hZ (wi hw 2 rfl)) (mvT hZ (wi hw 3 rfl)) (mvT hZ (wi hw 4 rfl)) (by decide) (backOf (W := 2) (rmD l Z a0 hw [] p1 (3 : Int32) d3 h107 n0 O107 hd3) hZ (wi hw 4 rfl) (wi hw 3 rfl) (by decide) (by decide)) (g := (mkF m 75 #[.val (.int p1), .val (.int p2), .val (.int x2), .val (.int x3), .val (.int x4), .val (.ref b101), .unset] [(.int 3), (.int p1), (.int 3), (.ref b101)])) rfl (by rw [hml]; rfl) (argsL := [(.int p1), (.int 3)]) (rest := [(.int 3), (.ref b101)]) (lenOf pd_14 rfl) rfl (by show 2 * 0 + _ ≤ _; exact Nat.le_of_eq rfl) (hb hby at_75) (fun _ _ => ⟨rfl, e107, (by decide : 1 + 0 ≤ _), (by decide : 8 + 0 ≤ _)⟩)
  dsimp only [Pt.U, Pt.locs, Pt.cells, Pt.slots] at X108 l108 y108 z108 st108 hQ108
  subst l108 y108 z108
  obtain ⟨rfl, N108q, hh108⟩ := hQ108
  have e108 : T108.heap = h107 := hh108
  have N108 := Fr.app N107 N108q
  obtain ⟨cl_b101_53, Ar_b101_53, q_b101_53, S_b101_53, N_b101_53, H_b101_53, G_b101_53⟩ := id (V_b101_107')
  have hinb101_53 : ¬ ((3 : Int32) < 0 ∨ cl_b101_53.slots.size ≤ ((3 : Int32)).toNatClampNeg) := inb_of S_b101_53 ⟨by decide, by decide⟩
  obtain ⟨T109, h109, X109, e109, W109, st109⟩ := stC X108 hx hZ e108 Ar_b101_53 (j := (3 : Int32)) hinb101_53 (g := (mkF m 78 #[.val (.int p1), .val (.int p2), .val (.int x2), .val (.int x3), .val (.int x4), .val (.ref b101), .unset] [(.int d3), (.int 3), (.ref b101)])) rfl rfl (hb hby at_78)
  have V_b101_109 : Arv Z h109 b101 k101 .char (8 : Int32) [(.int d0), (.int d1), (.int d2), (.int (nar .char d3)), (.int 0), (.int 0), (.int 0), (.int 0)] (.int 0) := Arv.set Ar_b101_53 q_b101_53 S_b101_53 N_b101_53 H_b101_53 G_b101_53 (fits_nar_char _) W109 3 rfl (Nat.le_of_ble_eq_true rfl)
  have V_b101_109' : Arv Z h109 b101 k101 .char (8 : Int32) [(.int d0), (.int d1), (.int d2), (.int d3), (.int 0), (.int 0), (.int 0), (.int 0)] (.int 0) := by have q := V_b101_109; rw [own_nar (own_dd hd3).1] at q; exact q
  have O109 := O107.wr W109 g_b101
  have KK109 : Keep h0 h109 [] := KK107.wr W109 (Or.inr sz_b101)
  have N109 := Fr.snoc X109 N108 g_b101
  obtain ⟨_, _, ⟨T110, L110, k110, n110⟩, -, X110, ⟨Lc110, hQ110, l110, y110, z110⟩, st110⟩ := Jvm.LawKit.callS X109 hx (y := y1) hown (mvT hZ (wi hw 1 rfl)) (mvT hZ (wi hw 2 rfl)) (mvT hZ (wi hw 3 rfl)) (mvT hZ (wi hw 4 rfl)) (by decide) (backOf (W := 2) (rmD l Z a0 hw [] p1 (4 : Int32) d4 h109 n0 O109 hd4) hZ (wi hw 4 rfl) (wi hw 3 rfl) (by decide) (by decide)) (g := (mkF m 84 #[.val (.int p1), .val (.int p2), .val (.int x2), .val (.int x3), .val (.int x4), .val (.ref b101), .unset] [(.int 4), (.int p1), (.int 4), (.ref b101)])) rfl (by rw [hml]; rfl) (argsL := [(.int p1), (.int 4)]) (rest := [(.int 4), (.ref b101)]) (lenOf pd_14 rfl) rfl (by show 2 * 0 + _ ≤ _; exact Nat.le_of_eq rfl) (hb hby at_84) (fun _ _ => ⟨rfl, e109, (by decide : 1 + 0 ≤ _), (by decide : 8 + 0 ≤ _)⟩)
  dsimp only [Pt.U, Pt.locs, Pt.cells, Pt.slots] at X110 l110 y110 z110 st110 hQ110
  subst l110 y110 z110
  obtain ⟨rfl, N110q, hh110⟩ := hQ110
  have e110 : T110.heap = h109 := hh110
  have N110 := Fr.app N109 N110q
  obtain ⟨cl_b101_65, Ar_b101_65, q_b101_65, S_b101_65, N_b101_65, H_b101_65, G_b101_65⟩ := id (V_b101_109')
  have hinb101_65 : ¬ ((4 : Int32) < 0 ∨ cl_b101_65.slots.size ≤ ((4 : Int32)).toNatClampNeg) := inb_of S_b101_65 ⟨by decide, by decide⟩
  obtain ⟨T111, h111, X111, e111, W111, st111⟩ := stC X110 hx hZ e110 Ar_b101_65 (j := (4 : Int32)) hinb101_65 (g := (mkF m 87 #[.val (.int p1), .val (.int p2), .val (.int x2), .val (.int x3), .val (.int x4), .val (.ref b101), .unset] [(.int d4), (.int 4), (.ref b101)])) rfl rfl (hb hby at_87)
  have V_b101_111 : Arv Z h111 b101 k101 .char (8 : Int32) [(.int d0), (.int d1), (.int d2), (.int d3), (.int (nar .char d4)), (.int 0), (.int 0), (.int 0)] (.int 0) := Arv.set Ar_b101_65 q_b101_65 S_b101_65 N_b101_65 H_b101_65 G_b101_65 (fits_nar_char _) W111 4 rfl (Nat.le_of_ble_eq_true rfl)
  have V_b101_111' : Arv Z h111 b101 k101 .char (8 : Int32) [(.int d0), (.int d1), (.int d2), (.int d3), (.int d4), (.int 0), (.int 0), (.int 0)] (.int 0) := by have q := V_b101_111; rw [own_nar (own_dd hd4).1] at q; exact q
  have O111 := O109.wr W111 g_b101
  have KK111 : Keep h0 h111 [] := KK109.wr W111 (Or.inr sz_b101)
  have N111 := Fr.snoc X111 N110 g_b101
  obtain ⟨_, _, ⟨T112, L112, k112, n112⟩, -, X112, ⟨Lc112, hQ112, l112, y112, z112⟩, st112⟩ := Jvm.LawKit.callS X111 hx (y := y1) hown (mvT hZ (wi hw 1 rfl)) (mvT hZ (wi hw 2 rfl)) (mvT hZ (wi hw 3 rfl)) (mvT hZ (wi hw 4 rfl)) (by decide) (backOf (W := 2) (rmD l Z a0 hw [] p1 (5 : Int32) d5 h111 n0 O111 hd5) hZ (wi hw 4 rfl) (wi hw 3 rfl) (by decide) (by decide)) (g := (mkF m 93 #[.val (.int p1), .val (.int p2), .val (.int x2), .val (.int x3), .val (.int x4), .val (.ref b101), .unset] [(.int 5), (.int p1), (.int 5), (.ref b101)])) rfl (by rw [hml]; rfl) (argsL := [(.int p1), (.int 5)]) (rest := [(.int 5), (.ref b101)]) (lenOf pd_14 rfl) rfl (by show 2 * 0 + _ ≤ _; exact Nat.le_of_eq rfl) (hb hby at_93) (fun _ _ => ⟨rfl, e111, (by decide : 1 + 0 ≤ _), (by decide : 8 + 0 ≤ _)⟩)
  dsimp only [Pt.U, Pt.locs, Pt.cells, Pt.slots] at X112 l112 y112 z112 st112 hQ112
  subst l112 y112 z112
  obtain ⟨rfl, N112q, hh112⟩ := hQ112
  have e112 : T112.heap = h111 := hh112
  have N112 := Fr.app N111 N112q
  obtain ⟨cl_b101_77, Ar_b101_77, q_b101_77, S_b101_77, N_b101_77, H_b101_77, G_b101_77⟩ := id (V_b101_111')
  have hinb101_77 : ¬ ((5 : Int32) < 0 ∨ cl_b101_77.slots.size ≤ ((5 : Int32)).toNatClampNeg) := inb_of S_b101_77 ⟨by decide, by decide⟩
  obtain ⟨T113, h113, X113, e113, W113, st113⟩ := stC X112 hx hZ e112 Ar_b101_77 (j := (5 : Int32)) hinb101_77 (g := (mkF m 96 #[.val (.int p1), .val (.int p2), .val (.int x2), .val (.int x3), .val (.int x4), .val (.ref b101), .unset] [(.int d5), (.int 5), (.ref b101)])) rfl rfl (hb hby at_96)
  have V_b101_113 : Arv Z h113 b101 k101 .char (8 : Int32) [(.int d0), (.int d1), (.int d2), (.int d3), (.int d4), (.int (nar .char d5)), (.int 0), (.int 0)] (.int 0) := Arv.set Ar_b101_77 q_b101_77 S_b101_77 N_b101_77 H_b101_77 G_b101_77 (fits_nar_char _) W113 5 rfl (Nat.le_of_ble_eq_true rfl)
  have V_b101_113' : Arv Z h113 b101 k101 .char (8 : Int32) [(.int d0), (.int d1), (.int d2), (.int d3), (.int d4), (.int d5), (.int 0), (.int 0)] (.int 0) := by have q := V_b101_113; rw [own_nar (own_dd hd5).1] at q; exact q
  have O113 := O111.wr W113 g_b101
  have KK113 : Keep h0 h113 [] := KK111.wr W113 (Or.inr sz_b101)
  have N113 := Fr.snoc X113 N112 g_b101
  obtain ⟨_, _, ⟨T114, L114, k114, n114⟩, -, X114, ⟨Lc114, hQ114, l114, y114, z114⟩, st114⟩ := Jvm.LawKit.callS X113 hx (y := y1) hown (mvT hZ (wi hw 1 rfl)) (mvT hZ (wi hw 2 rfl)) (mvT hZ (wi hw 3 rfl)) (mvT hZ (wi hw 4 rfl)) (by decide) (backOf (W := 2) (rmD l Z a0 hw [] p1 (6 : Int32) d6 h113 n0 O113 hd6) hZ (wi hw 4 rfl) (wi hw 3 rfl) (by decide) (by decide)) (g := (mkF m 104 #[.val (.int p1), .val (.int p2), .val (.int x2), .val (.int x3), .val (.int x4), .val (.ref b101), .unset] [(.int 6), (.int p1), (.int 6), (.ref b101)])) rfl (by rw [hml]; rfl) (argsL := [(.int p1), (.int 6)]) (rest := [(.int 6), (.ref b101)]) (lenOf pd_14 rfl) rfl (by show 2 * 0 + _ ≤ _; exact Nat.le_of_eq rfl) (hb hby at_104) (fun _ _ => ⟨rfl, e113, (by decide : 1 + 0 ≤ _), (by decide : 8 + 0 ≤ _)⟩)
  dsimp only [Pt.U, Pt.locs, Pt.cells, Pt.slots] at X114 l114 y114 z114 st114 hQ114
  subst l114 y114 z114
  obtain ⟨rfl, N114q, hh114⟩ := hQ114
  have e114 : T114.heap = h113 := hh114
  have N114 := Fr.app N113 N114q
  obtain ⟨cl_b101_89, Ar_b101_89, q_b101_89, S_b101_89, N_b101_89, H_b101_89, G_b101_89⟩ := id (V_b101_113')
  have hinb101_89 : ¬ ((6 : Int32) < 0 ∨ cl_b101_89.slots.size ≤ ((6 : Int32)).toNatClampNeg) := inb_of S_b101_89 ⟨by decide, by decide⟩
  obtain ⟨T115, h115, X115, e115, W115, st115⟩ := stC X114 hx hZ e114 Ar_b101_89 (j := (6 : Int32)) hinb101_89 (g := (mkF m 107 #[.val (.int p1), .val (.int p2), .val (.int x2), .val (.int x3), .val (.int x4), .val (.ref b101), .unset] [(.int d6), (.int 6), (.ref b101)])) rfl rfl (hb hby at_107)
  have V_b101_115 : Arv Z h115 b101 k101 .char (8 : Int32) [(.int d0), (.int d1), (.int d2), (.int d3), (.int d4), (.int d5), (.int (nar .char d6)), (.int 0)] (.int 0) := Arv.set Ar_b101_89 q_b101_89 S_b101_89 N_b101_89 H_b101_89 G_b101_89 (fits_nar_char _) W115 6 rfl (Nat.le_of_ble_eq_true rfl)
  have V_b101_115' : Arv Z h115 b101 k101 .char (8 : Int32) [(.int d0), (.int d1), (.int d2), (.int d3), (.int d4), (.int d5), (.int d6), (.int 0)] (.int 0) := by have q := V_b101_115; rw [own_nar (own_dd hd6).1] at q; exact q
  have O115 := O113.wr W115 g_b101
  have KK115 : Keep h0 h115 [] := KK113.wr W115 (Or.inr sz_b101)
  have N115 := Fr.snoc X115 N114 g_b101
  obtain ⟨_, _, ⟨T116, L116, k116, n116⟩, -, X116, ⟨Lc116, hQ116, l116, y116, z116⟩, st116⟩ := Jvm.LawKit.callS X115 hx (y := y1) hown (mvT hZ (wi hw 1 rfl)) (mvT hZ (wi hw 2 rfl)) (mvT hZ (wi hw 3 rfl)) (mvT hZ (wi hw 4 rfl)) (by decide) (backOf (W := 2) (rmD l Z a0 hw [] p1 (7 : Int32) d7 h115 n0 O115 hd7) hZ (wi hw 4 rfl) (wi hw 3 rfl) (by decide) (by decide)) (g := (mkF m 115 #[.val (.int p1), .val (.int p2), .val (.int x2), .val (.int x3), .val (.int x4), .val (.ref b101), .unset] [(.int 7), (.int p1), (.int 7), (.ref b101)])) rfl (by rw [hml]; rfl) (argsL := [(.int p1), (.int 7)]) (rest := [(.int 7), (.ref b101)]) (lenOf pd_14 rfl) rfl (by show 2 * 0 + _ ≤ _; exact Nat.le_of_eq rfl) (hb hby at_115) (fun _ _ => ⟨rfl, e115, (by decide : 1 + 0 ≤ _), (by decide : 8 + 0 ≤ _)⟩)
  dsimp only [Pt.U, Pt.locs, Pt.cells, Pt.slots] at X116 l116 y116 z116 st116 hQ116
  subst l116 y116 z116
  obtain ⟨rfl, N116q, hh116⟩ := hQ116
  have e116 : T116.heap = h115 := hh116
  have N116 := Fr.app N115 N116q
  obtain ⟨cl_b101_101, Ar_b101_101, q_b101_101, S_b101_101, N_b101_101, H_b101_101, G_b101_101⟩ := id (V_b101_115')
  have hinb101_101 : ¬ ((7 : Int32) < 0 ∨ cl_b101_101.slots.size ≤ ((7 : Int32)).toNatClampNeg) := inb_of S_b101_101 ⟨by decide, by decide⟩
  obtain ⟨T117, h117, X117, e117, W117, st117⟩ := stC X116 hx hZ e116 Ar_b101_101 (j := (7 : Int32)) hinb101_101 (g := (mkF m 118 #[.val (.int p1), .val (.int p2), .val (.int x2), .val (.int x3), .val (.int x4), .val (.ref b101), .unset] [(.int d7), (.int 7), (.ref b101)])) rfl rfl (hb hby at_118)
  have V_b101_117 : Arv Z h117 b101 k101 .char (8 : Int32) [(.int d0), (.int d1), (.int d2), (.int d3), (.int d4), (.int d5), (.int d6), (.int (nar .char d7))] (.int 0) := Arv.set Ar_b101_101 q_b101_101 S_b101_101 N_b101_101 H_b101_101 G_b101_101 (fits_nar_char _) W117 7 rfl (Nat.le_of_ble_eq_true rfl)
  have V_b101_117' : Arv Z h117 b101 k101 .char (8 : Int32) [(.int d0), (.int d1), (.int d2), (.int d3), (.int d4), (.int d5), (.int d6), (.int d7)] (.int 0) := by have q := V_b101_117; rw [own_nar (own_dd hd7).1] at q; exact q
  have O117 := O115.wr W117 g_b101
  have KK117 : Keep h0 h117 [] := KK115.wr W117 (Or.inr sz_b101)
  have N117 := Fr.snoc X117 N116 g_b101
  refine ⟨_, _, _, _, _, X117, e117, N117, KK117, sz_b101, V_b101_117', fun target k => ?_⟩
  show Steps p.tables e below (T0.setTop (mkF m 37 #[.val (.int p1), .val (.int p2), .val (.int x2), .val (.int x3), .val (.int x4), .unset, .unset] [])) _
  refine XS.bipush X0.here hx rfl (hb hby at_37) ?_
  show Steps p.tables e below (T0.setTop (mkF m 39 #[.val (.int p1), .val (.int p2), .val (.int x2), .val (.int x3), .val (.int x4), .unset, .unset] [(.int 8)])) _
  refine st101 _ ?_
  show Steps p.tables e below (T101.setTop (mkF m 41 #[.val (.int p1), .val (.int p2), .val (.int x2), .val (.int x3), .val (.int x4), .unset, .unset] [(.ref b101)])) _
  refine XS.astore X101.here hx rfl (hb hby at_41) rfl rfl (l' := #[.val (.int p1), .val (.int p2), .val (.int x2), .val (.int x3), .val (.int x4), .val (.ref b101), .unset]) rfl ?_
  refine XS.aload X101.here hx rfl (hb hby at_43) rfl rfl ?_
  refine XS.iconst X101.here hx rfl (hb hby at_45) ?_
  show Steps p.tables e below (T101.setTop (mkF m 46 #[.val (.int p1), .val (.int p2), .val (.int x2), .val (.int x3), .val (.int x4), .val (.ref b101), .unset] [(.int 0), (.ref b101)])) _
  refine XS.iloadN X101.here hx rfl (hb hby at_46) rfl ?_
  refine XS.iconst X101.here hx rfl (hb hby at_47) ?_
  show Steps p.tables e below (T101.setTop (mkF m 48 #[.val (.int p1), .val (.int p2), .val (.int x2), .val (.int x3), .val (.int x4), .val (.ref b101), .unset] [(.int 0), (.int p1), (.int 0), (.ref b101)])) _
  refine st102 _ ?_
  show Steps p.tables e below (T102.setTop (mkF m 51 #[.val (.int p1), .val (.int p2), .val (.int x2), .val (.int x3), .val (.int x4), .val (.ref b101), .unset] [(.int d0), (.int 0), (.ref b101)])) _
  refine st103 _ ?_
  show Steps p.tables e below (T103.setTop (mkF m 52 #[.val (.int p1), .val (.int p2), .val (.int x2), .val (.int x3), .val (.int x4), .val (.ref b101), .unset] [])) _
  refine XS.aload X103.here hx rfl (hb hby at_52) rfl rfl ?_
  refine XS.iconst X103.here hx rfl (hb hby at_54) ?_
  refine XS.iloadN X103.here hx rfl (hb hby at_55) rfl ?_
  show Steps p.tables e below (T103.setTop (mkF m 56 #[.val (.int p1), .val (.int p2), .val (.int x2), .val (.int x3), .val (.int x4), .val (.ref b101), .unset] [(.int p1), (.int 1), (.ref b101)])) _
  refine XS.iconst X103.here hx rfl (hb hby at_56) ?_
  show Steps p.tables e below (T103.setTop (mkF m 57 #[.val (.int p1), .val (.int p2), .val (.int x2), .val (.int x3), .val (.int x4), .val (.ref b101), .unset] [(.int 1), (.int p1), (.int 1), (.ref b101)])) _
  refine st104 _ ?_
  show Steps p.tables e below (T104.setTop (mkF m 60 #[.val (.int p1), .val (.int p2), .val (.int x2), .val (.int x3), .val (.int x4), .val (.ref b101), .unset] [(.int d1), (.int 1), (.ref b101)])) _
  refine st105 _ ?_
  show Steps p.tables e below (T105.setTop (mkF m 61 #[.val (.int p1), .val (.int p2), .val (.int x2), .val (.int x3), .val (.int x4), .val (.ref b101), .unset] [])) _
  refine XS.aload X105.here hx rfl (hb hby at_61) rfl rfl ?_
  refine XS.iconst X105.here hx rfl (hb hby at_63) ?_
  refine XS.iloadN X105.here hx rfl (hb hby at_64) rfl ?_
  show Steps p.tables e below (T105.setTop (mkF m 65 #[.val (.int p1), .val (.int p2), .val (.int x2), .val (.int x3), .val (.int x4), .val (.ref b101), .unset] [(.int p1), (.int 2), (.ref b101)])) _
  refine XS.iconst X105.here hx rfl (hb hby at_65) ?_
  show Steps p.tables e below (T105.setTop (mkF m 66 #[.val (.int p1), .val (.int p2), .val (.int x2), .val (.int x3), .val (.int x4), .val (.ref b101), .unset] [(.int 2), (.int p1), (.int 2), (.ref b101)])) _
  refine st106 _ ?_
  show Steps p.tables e below (T106.setTop (mkF m 69 #[.val (.int p1), .val (.int p2), .val (.int x2), .val (.int x3), .val (.int x4), .val (.ref b101), .unset] [(.int d2), (.int 2), (.ref b101)])) _
  refine st107 _ ?_
  show Steps p.tables e below (T107.setTop (mkF m 70 #[.val (.int p1), .val (.int p2), .val (.int x2), .val (.int x3), .val (.int x4), .val (.ref b101), .unset] [])) _
  refine XS.aload X107.here hx rfl (hb hby at_70) rfl rfl ?_
  refine XS.iconst X107.here hx rfl (hb hby at_72) ?_
  refine XS.iloadN X107.here hx rfl (hb hby at_73) rfl ?_
  show Steps p.tables e below (T107.setTop (mkF m 74 #[.val (.int p1), .val (.int p2), .val (.int x2), .val (.int x3), .val (.int x4), .val (.ref b101), .unset] [(.int p1), (.int 3), (.ref b101)])) _
  refine XS.iconst X107.here hx rfl (hb hby at_74) ?_
  show Steps p.tables e below (T107.setTop (mkF m 75 #[.val (.int p1), .val (.int p2), .val (.int x2), .val (.int x3), .val (.int x4), .val (.ref b101), .unset] [(.int 3), (.int p1), (.int 3), (.ref b101)])) _
  refine st108 _ ?_
  show Steps p.tables e below (T108.setTop (mkF m 78 #[.val (.int p1), .val (.int p2), .val (.int x2), .val (.int x3), .val (.int x4), .val (.ref b101), .unset] [(.int d3), (.int 3), (.ref b101)])) _
  refine st109 _ ?_
  show Steps p.tables e below (T109.setTop (mkF m 79 #[.val (.int p1), .val (.int p2), .val (.int x2), .val (.int x3), .val (.int x4), .val (.ref b101), .unset] [])) _
  refine XS.aload X109.here hx rfl (hb hby at_79) rfl rfl ?_
  refine XS.iconst X109.here hx rfl (hb hby at_81) ?_
  refine XS.iloadN X109.here hx rfl (hb hby at_82) rfl ?_
  show Steps p.tables e below (T109.setTop (mkF m 83 #[.val (.int p1), .val (.int p2), .val (.int x2), .val (.int x3), .val (.int x4), .val (.ref b101), .unset] [(.int p1), (.int 4), (.ref b101)])) _
  refine XS.iconst X109.here hx rfl (hb hby at_83) ?_
  show Steps p.tables e below (T109.setTop (mkF m 84 #[.val (.int p1), .val (.int p2), .val (.int x2), .val (.int x3), .val (.int x4), .val (.ref b101), .unset] [(.int 4), (.int p1), (.int 4), (.ref b101)])) _
  refine st110 _ ?_
  show Steps p.tables e below (T110.setTop (mkF m 87 #[.val (.int p1), .val (.int p2), .val (.int x2), .val (.int x3), .val (.int x4), .val (.ref b101), .unset] [(.int d4), (.int 4), (.ref b101)])) _
  refine st111 _ ?_
  show Steps p.tables e below (T111.setTop (mkF m 88 #[.val (.int p1), .val (.int p2), .val (.int x2), .val (.int x3), .val (.int x4), .val (.ref b101), .unset] [])) _
  refine XS.aload X111.here hx rfl (hb hby at_88) rfl rfl ?_
  refine XS.iconst X111.here hx rfl (hb hby at_90) ?_
  refine XS.iloadN X111.here hx rfl (hb hby at_91) rfl ?_
  show Steps p.tables e below (T111.setTop (mkF m 92 #[.val (.int p1), .val (.int p2), .val (.int x2), .val (.int x3), .val (.int x4), .val (.ref b101), .unset] [(.int p1), (.int 5), (.ref b101)])) _
  refine XS.iconst X111.here hx rfl (hb hby at_92) ?_
  show Steps p.tables e below (T111.setTop (mkF m 93 #[.val (.int p1), .val (.int p2), .val (.int x2), .val (.int x3), .val (.int x4), .val (.ref b101), .unset] [(.int 5), (.int p1), (.int 5), (.ref b101)])) _
  refine st112 _ ?_
  show Steps p.tables e below (T112.setTop (mkF m 96 #[.val (.int p1), .val (.int p2), .val (.int x2), .val (.int x3), .val (.int x4), .val (.ref b101), .unset] [(.int d5), (.int 5), (.ref b101)])) _
  refine st113 _ ?_
  show Steps p.tables e below (T113.setTop (mkF m 97 #[.val (.int p1), .val (.int p2), .val (.int x2), .val (.int x3), .val (.int x4), .val (.ref b101), .unset] [])) _
  refine XS.aload X113.here hx rfl (hb hby at_97) rfl rfl ?_
  refine XS.bipush X113.here hx rfl (hb hby at_99) ?_
  refine XS.iloadN X113.here hx rfl (hb hby at_101) rfl ?_
  show Steps p.tables e below (T113.setTop (mkF m 102 #[.val (.int p1), .val (.int p2), .val (.int x2), .val (.int x3), .val (.int x4), .val (.ref b101), .unset] [(.int p1), (.int 6), (.ref b101)])) _
  refine XS.bipush X113.here hx rfl (hb hby at_102) ?_
  show Steps p.tables e below (T113.setTop (mkF m 104 #[.val (.int p1), .val (.int p2), .val (.int x2), .val (.int x3), .val (.int x4), .val (.ref b101), .unset] [(.int 6), (.int p1), (.int 6), (.ref b101)])) _
  refine st114 _ ?_
  show Steps p.tables e below (T114.setTop (mkF m 107 #[.val (.int p1), .val (.int p2), .val (.int x2), .val (.int x3), .val (.int x4), .val (.ref b101), .unset] [(.int d6), (.int 6), (.ref b101)])) _
  refine st115 _ ?_
  show Steps p.tables e below (T115.setTop (mkF m 108 #[.val (.int p1), .val (.int p2), .val (.int x2), .val (.int x3), .val (.int x4), .val (.ref b101), .unset] [])) _
  refine XS.aload X115.here hx rfl (hb hby at_108) rfl rfl ?_
  refine XS.bipush X115.here hx rfl (hb hby at_110) ?_
  refine XS.iloadN X115.here hx rfl (hb hby at_112) rfl ?_
  show Steps p.tables e below (T115.setTop (mkF m 113 #[.val (.int p1), .val (.int p2), .val (.int x2), .val (.int x3), .val (.int x4), .val (.ref b101), .unset] [(.int p1), (.int 7), (.ref b101)])) _
  refine XS.bipush X115.here hx rfl (hb hby at_113) ?_
  show Steps p.tables e below (T115.setTop (mkF m 115 #[.val (.int p1), .val (.int p2), .val (.int x2), .val (.int x3), .val (.int x4), .val (.ref b101), .unset] [(.int 7), (.int p1), (.int 7), (.ref b101)])) _
  refine st116 _ ?_
  show Steps p.tables e below (T116.setTop (mkF m 118 #[.val (.int p1), .val (.int p2), .val (.int x2), .val (.int x3), .val (.int x4), .val (.ref b101), .unset] [(.int d7), (.int 7), (.ref b101)])) _
  refine st117 _ ?_
  exact k
set_option maxRecDepth 65536 in
set_option maxHeartbeats 40000000 in
theorem sg2_100 (l : Launch) (Z : State) (a0 : Array Value) (hw : ∀ d ∈ tables_1, d.before a0 Z = true) (p1 p2 x3 x4 : Int32) (b : Addr) (kb : ClassId) (d0 d1 d2 d3 d4 d5 d6 d7 : Int32) {p : Program} {e : Env} {s : State} {m : MethodId} {args : Array Value} {below : List Frame} {meth : Method} {c : Code} {T0 : State} {L0 : List Loc} (h0 : Heap) (n0 : Nat) (O0 : Old Z n0 h0) (hx : p.tables.exec = Jvm.exec) (hby : c.code = code) (hml : c.maxLocals = 7) (hown : s.vm.findClass "io/roadcrew/resolve/VersionReaderMajorPinLaw" = some m.cls) (hZ : Z.Warmed39 s.vm) (X0 : Stand p l e room_1 s m args below meth c T0 L0 1 8) (e0 : T0.heap = h0) (N0 : Fr n0 L0) (K : Arv Z h0 b kb .char (8 : Int32) [(.int d0), (.int d1), (.int d2), (.int d3), (.int d4), (.int d5), (.int d6), (.int d7)] (.int (0 : Int32))) (gb : n0 ≤ b) (k3 : x3 = (0 : Int32)) (k4 : x4 = (0 : Int32)) :
    ∃ (T' : State) (h' : Heap) (L' : List Loc), Stand p l e room_1 s m args below meth c T' L' 1 8 ∧ T'.heap = h' ∧ Fr n0 L' ∧ Keep h0 h' [b] ∧ Arv Z h' b kb .char (8 : Int32) [(.int d0), (.int (46 : Int32)), (.int d2), (.int d3), (.int d4), (.int d5), (.int d6), (.int d7)] (.int (0 : Int32)) ∧ (∀ target, Steps p.tables e below (T'.setTop (mkF m 160 #[.val (.int p1), .val (.int p2), .val (.int 1), .val (.int x3), .val (.int x4), .val (.ref b), .unset] [])) target → Steps p.tables e below (T0.setTop (mkF m 119 #[.val (.int p1), .val (.int p2), .val (.int 1), .val (.int x3), .val (.int x4), .val (.ref b), .unset] [])) target) := by
  obtain ⟨cl_b_7, Ar_b_7, q_b_7, S_b_7, N_b_7, H_b_7, G_b_7⟩ := id (K)
  have hinb_7 : ¬ ((1 : Int32) < 0 ∨ cl_b_7.slots.size ≤ ((1 : Int32)).toNatClampNeg) := inb_of S_b_7 ⟨by decide, by decide⟩
  obtain ⟨T101, h101, X101, e101, W101, st101⟩ := stC X0 hx hZ e0 Ar_b_7 (j := (1 : Int32)) hinb_7 (g := (mkF m 124 #[.val (.int p1), .val (.int p2), .val (.int 1), .val (.int x3), .val (.int x4), .val (.ref b), .unset] [(.int 46), (.int 1), (.ref b)])) rfl rfl (hb hby at_124)
  have V_b_101 : Arv Z h101 b kb .char (8 : Int32) [(.int d0), (.int 46), (.int d2), (.int d3), (.int d4), (.int d5), (.int d6), (.int d7)] (.int 0) := Arv.set Ar_b_7 q_b_7 S_b_7 N_b_7 H_b_7 G_b_7 (fits_nar_char _) W101 1 rfl (Nat.le_of_ble_eq_true rfl)
  have O101 := O0.wr W101 gb
  have KK101 : Keep h0 h101 [b] := (Keep.refl h0 [b]).wr W101 (Or.inl (List.mem_of_getElem? (i := 0) rfl))
  have N101 := Fr.snoc X101 N0 gb
  refine ⟨_, _, _, X101, e101, N101, KK101, V_b_101, fun target k => ?_⟩
  show Steps p.tables e below (T0.setTop (mkF m 119 #[.val (.int p1), .val (.int p2), .val (.int 1), .val (.int x3), .val (.int x4), .val (.ref b), .unset] [])) _
  refine XS.aload X0.here hx rfl (hb hby at_119) rfl rfl ?_
  refine XS.iloadN X0.here hx rfl (hb hby at_121) rfl ?_
  refine XS.bipush X0.here hx rfl (hb hby at_122) ?_
  show Steps p.tables e below (T0.setTop (mkF m 124 #[.val (.int p1), .val (.int p2), .val (.int 1), .val (.int x3), .val (.int x4), .val (.ref b), .unset] [(.int 46), (.int 1), (.ref b)])) _
  refine st101 _ ?_
  show Steps p.tables e below (T101.setTop (mkF m 125 #[.val (.int p1), .val (.int p2), .val (.int 1), .val (.int x3), .val (.int x4), .val (.ref b), .unset] [])) _
  refine XS.iloadN X101.here hx rfl (hb hby at_125) rfl ?_
  refine XS.ifYes X101.here hx rfl (pc0 := 126) (pc' := 142) rfl (hb hby at_126) rfl ((if0 _ _).trans (teq k3).1) (by decide) (by decide) ?_
  refine XS.iload X101.here hx rfl (hb hby at_142) rfl ?_
  show Steps p.tables e below (T101.setTop (mkF m 144 #[.val (.int p1), .val (.int p2), .val (.int 1), .val (.int x3), .val (.int x4), .val (.ref b), .unset] [(.int x4)])) _
  refine XS.ifYes X101.here hx rfl (pc0 := 144) (pc' := 160) rfl (hb hby at_144) rfl ((if0 _ _).trans (teq k4).1) (by decide) (by decide) ?_
  exact k
set_option maxRecDepth 65536 in
set_option maxHeartbeats 40000000 in
theorem sg2_101 (l : Launch) (Z : State) (a0 : Array Value) (hw : ∀ d ∈ tables_1, d.before a0 Z = true) (p1 p2 x3 x4 : Int32) (b : Addr) (kb : ClassId) (d0 d1 d2 d3 d4 d5 d6 d7 : Int32) {p : Program} {e : Env} {s : State} {m : MethodId} {args : Array Value} {below : List Frame} {meth : Method} {c : Code} {T0 : State} {L0 : List Loc} (h0 : Heap) (n0 : Nat) (O0 : Old Z n0 h0) (hx : p.tables.exec = Jvm.exec) (hby : c.code = code) (hml : c.maxLocals = 7) (hown : s.vm.findClass "io/roadcrew/resolve/VersionReaderMajorPinLaw" = some m.cls) (hZ : Z.Warmed39 s.vm) (X0 : Stand p l e room_1 s m args below meth c T0 L0 1 8) (e0 : T0.heap = h0) (N0 : Fr n0 L0) (K : Arv Z h0 b kb .char (8 : Int32) [(.int d0), (.int d1), (.int d2), (.int d3), (.int d4), (.int d5), (.int d6), (.int d7)] (.int (0 : Int32))) (gb : n0 ≤ b) (k3 : x3 = (0 : Int32)) (k4 : ¬ (x4 = (0 : Int32))) :
    ∃ (T' : State) (h' : Heap) (L' : List Loc), Stand p l e room_1 s m args below meth c T' L' 1 8 ∧ T'.heap = h' ∧ Fr n0 L' ∧ Keep h0 h' [b] ∧ Arv Z h' b kb .char (8 : Int32) [(.int d0), (.int (46 : Int32)), (.int d2), (.int d3), (.int d4), (.int (46 : Int32)), (.int d6), (.int d7)] (.int (0 : Int32)) ∧ (∀ target, Steps p.tables e below (T'.setTop (mkF m 160 #[.val (.int p1), .val (.int p2), .val (.int 1), .val (.int x3), .val (.int x4), .val (.ref b), .unset] [])) target → Steps p.tables e below (T0.setTop (mkF m 119 #[.val (.int p1), .val (.int p2), .val (.int 1), .val (.int x3), .val (.int x4), .val (.ref b), .unset] [])) target) := by
  obtain ⟨cl_b_7, Ar_b_7, q_b_7, S_b_7, N_b_7, H_b_7, G_b_7⟩ := id (K)
  have hinb_7 : ¬ ((1 : Int32) < 0 ∨ cl_b_7.slots.size ≤ ((1 : Int32)).toNatClampNeg) := inb_of S_b_7 ⟨by decide, by decide⟩
  obtain ⟨T101, h101, X101, e101, W101, st101⟩ := stC X0 hx hZ e0 Ar_b_7 (j := (1 : Int32)) hinb_7 (g := (mkF m 124 #[.val (.int p1), .val (.int p2), .val (.int 1), .val (.int x3), .val (.int x4), .val (.ref b), .unset] [(.int 46), (.int 1), (.ref b)])) rfl rfl (hb hby at_124)
  have V_b_101 : Arv Z h101 b kb .char (8 : Int32) [(.int d0), (.int 46), (.int d2), (.int d3), (.int d4), (.int d5), (.int d6), (.int d7)] (.int 0) := Arv.set Ar_b_7 q_b_7 S_b_7 N_b_7 H_b_7 G_b_7 (fits_nar_char _) W101 1 rfl (Nat.le_of_ble_eq_true rfl)
  have O101 := O0.wr W101 gb
  have KK101 : Keep h0 h101 [b] := (Keep.refl h0 [b]).wr W101 (Or.inl (List.mem_of_getElem? (i := 0) rfl))
  have N101 := Fr.snoc X101 N0 gb
  obtain ⟨cl_b_34, Ar_b_34, q_b_34, S_b_34, N_b_34, H_b_34, G_b_34⟩ := id (V_b_101)
  have hinb_34 : ¬ ((5 : Int32) < 0 ∨ cl_b_34.slots.size ≤ ((5 : Int32)).toNatClampNeg) := inb_of S_b_34 ⟨by decide, by decide⟩
  obtain ⟨T102, h102, X102, e102, W102, st102⟩ := stC X101 hx hZ e101 Ar_b_34 (j := (5 : Int32)) hinb_34 (g := (mkF m 159 #[.val (.int p1), .val (.int p2), .val (.int 1), .val (.int x3), .val (.int x4), .val (.ref b), .unset] [(.int 46), (.int 5), (.ref b)])) rfl rfl (hb hby at_159)
  have V_b_102 : Arv Z h102 b kb .char (8 : Int32) [(.int d0), (.int 46), (.int d2), (.int d3), (.int d4), (.int 46), (.int d6), (.int d7)] (.int 0) := Arv.set Ar_b_34 q_b_34 S_b_34 N_b_34 H_b_34 G_b_34 (fits_nar_char _) W102 5 rfl (Nat.le_of_ble_eq_true rfl)
  have O102 := O101.wr W102 gb
  have KK102 : Keep h0 h102 [b] := KK101.wr W102 (Or.inl (List.mem_of_getElem? (i := 0) rfl))
  have N102 := Fr.snoc X102 N101 gb
  refine ⟨_, _, _, X102, e102, N102, KK102, V_b_102, fun target k => ?_⟩
  show Steps p.tables e below (T0.setTop (mkF m 119 #[.val (.int p1), .val (.int p2), .val (.int 1), .val (.int x3), .val (.int x4), .val (.ref b), .unset] [])) _
  refine XS.aload X0.here hx rfl (hb hby at_119) rfl rfl ?_
  refine XS.iloadN X0.here hx rfl (hb hby at_121) rfl ?_
  refine XS.bipush X0.here hx rfl (hb hby at_122) ?_
  show Steps p.tables e below (T0.setTop (mkF m 124 #[.val (.int p1), .val (.int p2), .val (.int 1), .val (.int x3), .val (.int x4), .val (.ref b), .unset] [(.int 46), (.int 1), (.ref b)])) _
  refine st101 _ ?_
  show Steps p.tables e below (T101.setTop (mkF m 125 #[.val (.int p1), .val (.int p2), .val (.int 1), .val (.int x3), .val (.int x4), .val (.ref b), .unset] [])) _
  refine XS.iloadN X101.here hx rfl (hb hby at_125) rfl ?_
  refine XS.ifYes X101.here hx rfl (pc0 := 126) (pc' := 142) rfl (hb hby at_126) rfl ((if0 _ _).trans (teq k3).1) (by decide) (by decide) ?_
  refine XS.iload X101.here hx rfl (hb hby at_142) rfl ?_
  show Steps p.tables e below (T101.setTop (mkF m 144 #[.val (.int p1), .val (.int p2), .val (.int 1), .val (.int x3), .val (.int x4), .val (.ref b), .unset] [(.int x4)])) _
  refine XS.ifNo X101.here hx rfl (hb hby at_144) rfl ((if0 _ _).trans (feq k4).1) ?_
  refine XS.iloadN X101.here hx rfl (hb hby at_147) rfl ?_
  refine XS.iconst X101.here hx rfl (hb hby at_148) ?_
  show Steps p.tables e below (T101.setTop (mkF m 149 #[.val (.int p1), .val (.int p2), .val (.int 1), .val (.int x3), .val (.int x4), .val (.ref b), .unset] [(.int 2), (.int 1)])) _
  refine XS.icmpNo X101.here hx rfl (hb hby at_149) rfl (flt (by decide : ¬ ((2 : Int32) < (1 : Int32)))).2.2.1 ?_
  refine XS.aload X101.here hx rfl (hb hby at_152) rfl rfl ?_
  refine XS.iloadN X101.here hx rfl (hb hby at_154) rfl ?_
  show Steps p.tables e below (T101.setTop (mkF m 155 #[.val (.int p1), .val (.int p2), .val (.int 1), .val (.int x3), .val (.int x4), .val (.ref b), .unset] [(.int 1), (.ref b)])) _
  refine XS.iconst X101.here hx rfl (hb hby at_155) ?_
  show Steps p.tables e below (T101.setTop (mkF m 156 #[.val (.int p1), .val (.int p2), .val (.int 1), .val (.int x3), .val (.int x4), .val (.ref b), .unset] [(.int 4), (.int 1), (.ref b)])) _
  refine XS.iadd X101.here hx rfl (hb hby at_156) rfl ?_
  rw [show ((1 : Int32) + (4 : Int32)) = (5 : Int32) from by decide]
  show Steps p.tables e below (T101.setTop (mkF m 157 #[.val (.int p1), .val (.int p2), .val (.int 1), .val (.int x3), .val (.int x4), .val (.ref b), .unset] [(.int 5), (.ref b)])) _
  refine XS.bipush X101.here hx rfl (hb hby at_157) ?_
  show Steps p.tables e below (T101.setTop (mkF m 159 #[.val (.int p1), .val (.int p2), .val (.int 1), .val (.int x3), .val (.int x4), .val (.ref b), .unset] [(.int 46), (.int 5), (.ref b)])) _
  refine st102 _ ?_
  exact k
set_option maxRecDepth 65536 in
set_option maxHeartbeats 40000000 in
theorem sg2_110 (l : Launch) (Z : State) (a0 : Array Value) (hw : ∀ d ∈ tables_1, d.before a0 Z = true) (p1 p2 x3 x4 : Int32) (b : Addr) (kb : ClassId) (d0 d1 d2 d3 d4 d5 d6 d7 : Int32) {p : Program} {e : Env} {s : State} {m : MethodId} {args : Array Value} {below : List Frame} {meth : Method} {c : Code} {T0 : State} {L0 : List Loc} (h0 : Heap) (n0 : Nat) (O0 : Old Z n0 h0) (hx : p.tables.exec = Jvm.exec) (hby : c.code = code) (hml : c.maxLocals = 7) (hown : s.vm.findClass "io/roadcrew/resolve/VersionReaderMajorPinLaw" = some m.cls) (hZ : Z.Warmed39 s.vm) (X0 : Stand p l e room_1 s m args below meth c T0 L0 1 8) (e0 : T0.heap = h0) (N0 : Fr n0 L0) (K : Arv Z h0 b kb .char (8 : Int32) [(.int d0), (.int d1), (.int d2), (.int d3), (.int d4), (.int d5), (.int d6), (.int d7)] (.int (0 : Int32))) (gb : n0 ≤ b) (k3 : ¬ (x3 = (0 : Int32))) (k4 : x4 = (0 : Int32)) :
    ∃ (T' : State) (h' : Heap) (L' : List Loc), Stand p l e room_1 s m args below meth c T' L' 1 8 ∧ T'.heap = h' ∧ Fr n0 L' ∧ Keep h0 h' [b] ∧ Arv Z h' b kb .char (8 : Int32) [(.int d0), (.int (46 : Int32)), (.int d2), (.int (46 : Int32)), (.int d4), (.int d5), (.int d6), (.int d7)] (.int (0 : Int32)) ∧ (∀ target, Steps p.tables e below (T'.setTop (mkF m 160 #[.val (.int p1), .val (.int p2), .val (.int 1), .val (.int x3), .val (.int x4), .val (.ref b), .unset] [])) target → Steps p.tables e below (T0.setTop (mkF m 119 #[.val (.int p1), .val (.int p2), .val (.int 1), .val (.int x3), .val (.int x4), .val (.ref b), .unset] [])) target) := by
  obtain ⟨cl_b_7, Ar_b_7, q_b_7, S_b_7, N_b_7, H_b_7, G_b_7⟩ := id (K)
  have hinb_7 : ¬ ((1 : Int32) < 0 ∨ cl_b_7.slots.size ≤ ((1 : Int32)).toNatClampNeg) := inb_of S_b_7 ⟨by decide, by decide⟩
  obtain ⟨T101, h101, X101, e101, W101, st101⟩ := stC X0 hx hZ e0 Ar_b_7 (j := (1 : Int32)) hinb_7 (g := (mkF m 124 #[.val (.int p1), .val (.int p2), .val (.int 1), .val (.int x3), .val (.int x4), .val (.ref b), .unset] [(.int 46), (.int 1), (.ref b)])) rfl rfl (hb hby at_124)
  have V_b_101 : Arv Z h101 b kb .char (8 : Int32) [(.int d0), (.int 46), (.int d2), (.int d3), (.int d4), (.int d5), (.int d6), (.int d7)] (.int 0) := Arv.set Ar_b_7 q_b_7 S_b_7 N_b_7 H_b_7 G_b_7 (fits_nar_char _) W101 1 rfl (Nat.le_of_ble_eq_true rfl)
  have O101 := O0.wr W101 gb
  have KK101 : Keep h0 h101 [b] := (Keep.refl h0 [b]).wr W101 (Or.inl (List.mem_of_getElem? (i := 0) rfl))
  have N101 := Fr.snoc X101 N0 gb
  obtain ⟨cl_b_30, Ar_b_30, q_b_30, S_b_30, N_b_30, H_b_30, G_b_30⟩ := id (V_b_101)
  have hinb_30 : ¬ ((3 : Int32) < 0 ∨ cl_b_30.slots.size ≤ ((3 : Int32)).toNatClampNeg) := inb_of S_b_30 ⟨by decide, by decide⟩
  obtain ⟨T102, h102, X102, e102, W102, st102⟩ := stC X101 hx hZ e101 Ar_b_30 (j := (3 : Int32)) hinb_30 (g := (mkF m 141 #[.val (.int p1), .val (.int p2), .val (.int 1), .val (.int x3), .val (.int x4), .val (.ref b), .unset] [(.int 46), (.int 3), (.ref b)])) rfl rfl (hb hby at_141)
  have V_b_102 : Arv Z h102 b kb .char (8 : Int32) [(.int d0), (.int 46), (.int d2), (.int 46), (.int d4), (.int d5), (.int d6), (.int d7)] (.int 0) := Arv.set Ar_b_30 q_b_30 S_b_30 N_b_30 H_b_30 G_b_30 (fits_nar_char _) W102 3 rfl (Nat.le_of_ble_eq_true rfl)
  have O102 := O101.wr W102 gb
  have KK102 : Keep h0 h102 [b] := KK101.wr W102 (Or.inl (List.mem_of_getElem? (i := 0) rfl))
  have N102 := Fr.snoc X102 N101 gb
  refine ⟨_, _, _, X102, e102, N102, KK102, V_b_102, fun target k => ?_⟩
  show Steps p.tables e below (T0.setTop (mkF m 119 #[.val (.int p1), .val (.int p2), .val (.int 1), .val (.int x3), .val (.int x4), .val (.ref b), .unset] [])) _
  refine XS.aload X0.here hx rfl (hb hby at_119) rfl rfl ?_
  refine XS.iloadN X0.here hx rfl (hb hby at_121) rfl ?_
  refine XS.bipush X0.here hx rfl (hb hby at_122) ?_
  show Steps p.tables e below (T0.setTop (mkF m 124 #[.val (.int p1), .val (.int p2), .val (.int 1), .val (.int x3), .val (.int x4), .val (.ref b), .unset] [(.int 46), (.int 1), (.ref b)])) _
  refine st101 _ ?_
  show Steps p.tables e below (T101.setTop (mkF m 125 #[.val (.int p1), .val (.int p2), .val (.int 1), .val (.int x3), .val (.int x4), .val (.ref b), .unset] [])) _
  refine XS.iloadN X101.here hx rfl (hb hby at_125) rfl ?_
  refine XS.ifNo X101.here hx rfl (hb hby at_126) rfl ((if0 _ _).trans (feq k3).1) ?_
  refine XS.iloadN X101.here hx rfl (hb hby at_129) rfl ?_
  show Steps p.tables e below (T101.setTop (mkF m 130 #[.val (.int p1), .val (.int p2), .val (.int 1), .val (.int x3), .val (.int x4), .val (.ref b), .unset] [(.int 1)])) _
  refine XS.iconst X101.here hx rfl (hb hby at_130) ?_
  refine XS.icmpNo X101.here hx rfl (hb hby at_131) rfl (flt (by decide : ¬ ((4 : Int32) < (1 : Int32)))).2.2.1 ?_
  refine XS.aload X101.here hx rfl (hb hby at_134) rfl rfl ?_
  show Steps p.tables e below (T101.setTop (mkF m 136 #[.val (.int p1), .val (.int p2), .val (.int 1), .val (.int x3), .val (.int x4), .val (.ref b), .unset] [(.ref b)])) _
  refine XS.iloadN X101.here hx rfl (hb hby at_136) rfl ?_
  refine XS.iconst X101.here hx rfl (hb hby at_137) ?_
  show Steps p.tables e below (T101.setTop (mkF m 138 #[.val (.int p1), .val (.int p2), .val (.int 1), .val (.int x3), .val (.int x4), .val (.ref b), .unset] [(.int 2), (.int 1), (.ref b)])) _
  refine XS.iadd X101.here hx rfl (hb hby at_138) rfl ?_
  rw [show ((1 : Int32) + (2 : Int32)) = (3 : Int32) from by decide]
  show Steps p.tables e below (T101.setTop (mkF m 139 #[.val (.int p1), .val (.int p2), .val (.int 1), .val (.int x3), .val (.int x4), .val (.ref b), .unset] [(.int 3), (.ref b)])) _
  refine XS.bipush X101.here hx rfl (hb hby at_139) ?_
  show Steps p.tables e below (T101.setTop (mkF m 141 #[.val (.int p1), .val (.int p2), .val (.int 1), .val (.int x3), .val (.int x4), .val (.ref b), .unset] [(.int 46), (.int 3), (.ref b)])) _
  refine st102 _ ?_
  show Steps p.tables e below (T102.setTop (mkF m 142 #[.val (.int p1), .val (.int p2), .val (.int 1), .val (.int x3), .val (.int x4), .val (.ref b), .unset] [])) _
  refine XS.iload X102.here hx rfl (hb hby at_142) rfl ?_
  refine XS.ifYes X102.here hx rfl (pc0 := 144) (pc' := 160) rfl (hb hby at_144) rfl ((if0 _ _).trans (teq k4).1) (by decide) (by decide) ?_
  exact k
set_option maxRecDepth 65536 in
set_option maxHeartbeats 40000000 in
theorem sg2_111 (l : Launch) (Z : State) (a0 : Array Value) (hw : ∀ d ∈ tables_1, d.before a0 Z = true) (p1 p2 x3 x4 : Int32) (b : Addr) (kb : ClassId) (d0 d1 d2 d3 d4 d5 d6 d7 : Int32) {p : Program} {e : Env} {s : State} {m : MethodId} {args : Array Value} {below : List Frame} {meth : Method} {c : Code} {T0 : State} {L0 : List Loc} (h0 : Heap) (n0 : Nat) (O0 : Old Z n0 h0) (hx : p.tables.exec = Jvm.exec) (hby : c.code = code) (hml : c.maxLocals = 7) (hown : s.vm.findClass "io/roadcrew/resolve/VersionReaderMajorPinLaw" = some m.cls) (hZ : Z.Warmed39 s.vm) (X0 : Stand p l e room_1 s m args below meth c T0 L0 1 8) (e0 : T0.heap = h0) (N0 : Fr n0 L0) (K : Arv Z h0 b kb .char (8 : Int32) [(.int d0), (.int d1), (.int d2), (.int d3), (.int d4), (.int d5), (.int d6), (.int d7)] (.int (0 : Int32))) (gb : n0 ≤ b) (k3 : ¬ (x3 = (0 : Int32))) (k4 : ¬ (x4 = (0 : Int32))) :
    ∃ (T' : State) (h' : Heap) (L' : List Loc), Stand p l e room_1 s m args below meth c T' L' 1 8 ∧ T'.heap = h' ∧ Fr n0 L' ∧ Keep h0 h' [b] ∧ Arv Z h' b kb .char (8 : Int32) [(.int d0), (.int (46 : Int32)), (.int d2), (.int (46 : Int32)), (.int d4), (.int (46 : Int32)), (.int d6), (.int d7)] (.int (0 : Int32)) ∧ (∀ target, Steps p.tables e below (T'.setTop (mkF m 160 #[.val (.int p1), .val (.int p2), .val (.int 1), .val (.int x3), .val (.int x4), .val (.ref b), .unset] [])) target → Steps p.tables e below (T0.setTop (mkF m 119 #[.val (.int p1), .val (.int p2), .val (.int 1), .val (.int x3), .val (.int x4), .val (.ref b), .unset] [])) target) := by
  obtain ⟨cl_b_7, Ar_b_7, q_b_7, S_b_7, N_b_7, H_b_7, G_b_7⟩ := id (K)
  have hinb_7 : ¬ ((1 : Int32) < 0 ∨ cl_b_7.slots.size ≤ ((1 : Int32)).toNatClampNeg) := inb_of S_b_7 ⟨by decide, by decide⟩
  obtain ⟨T101, h101, X101, e101, W101, st101⟩ := stC X0 hx hZ e0 Ar_b_7 (j := (1 : Int32)) hinb_7 (g := (mkF m 124 #[.val (.int p1), .val (.int p2), .val (.int 1), .val (.int x3), .val (.int x4), .val (.ref b), .unset] [(.int 46), (.int 1), (.ref b)])) rfl rfl (hb hby at_124)
  have V_b_101 : Arv Z h101 b kb .char (8 : Int32) [(.int d0), (.int 46), (.int d2), (.int d3), (.int d4), (.int d5), (.int d6), (.int d7)] (.int 0) := Arv.set Ar_b_7 q_b_7 S_b_7 N_b_7 H_b_7 G_b_7 (fits_nar_char _) W101 1 rfl (Nat.le_of_ble_eq_true rfl)
  have O101 := O0.wr W101 gb
  have KK101 : Keep h0 h101 [b] := (Keep.refl h0 [b]).wr W101 (Or.inl (List.mem_of_getElem? (i := 0) rfl))
  have N101 := Fr.snoc X101 N0 gb
  obtain ⟨cl_b_30, Ar_b_30, q_b_30, S_b_30, N_b_30, H_b_30, G_b_30⟩ := id (V_b_101)
  have hinb_30 : ¬ ((3 : Int32) < 0 ∨ cl_b_30.slots.size ≤ ((3 : Int32)).toNatClampNeg) := inb_of S_b_30 ⟨by decide, by decide⟩
  obtain ⟨T102, h102, X102, e102, W102, st102⟩ := stC X101 hx hZ e101 Ar_b_30 (j := (3 : Int32)) hinb_30 (g := (mkF m 141 #[.val (.int p1), .val (.int p2), .val (.int 1), .val (.int x3), .val (.int x4), .val (.ref b), .unset] [(.int 46), (.int 3), (.ref b)])) rfl rfl (hb hby at_141)
  have V_b_102 : Arv Z h102 b kb .char (8 : Int32) [(.int d0), (.int 46), (.int d2), (.int 46), (.int d4), (.int d5), (.int d6), (.int d7)] (.int 0) := Arv.set Ar_b_30 q_b_30 S_b_30 N_b_30 H_b_30 G_b_30 (fits_nar_char _) W102 3 rfl (Nat.le_of_ble_eq_true rfl)
  have O102 := O101.wr W102 gb
  have KK102 : Keep h0 h102 [b] := KK101.wr W102 (Or.inl (List.mem_of_getElem? (i := 0) rfl))
  have N102 := Fr.snoc X102 N101 gb
  obtain ⟨cl_b_53, Ar_b_53, q_b_53, S_b_53, N_b_53, H_b_53, G_b_53⟩ := id (V_b_102)
  have hinb_53 : ¬ ((5 : Int32) < 0 ∨ cl_b_53.slots.size ≤ ((5 : Int32)).toNatClampNeg) := inb_of S_b_53 ⟨by decide, by decide⟩
  obtain ⟨T103, h103, X103, e103, W103, st103⟩ := stC X102 hx hZ e102 Ar_b_53 (j := (5 : Int32)) hinb_53 (g := (mkF m 159 #[.val (.int p1), .val (.int p2), .val (.int 1), .val (.int x3), .val (.int x4), .val (.ref b), .unset] [(.int 46), (.int 5), (.ref b)])) rfl rfl (hb hby at_159)
  have V_b_103 : Arv Z h103 b kb .char (8 : Int32) [(.int d0), (.int 46), (.int d2), (.int 46), (.int d4), (.int 46), (.int d6), (.int d7)] (.int 0) := Arv.set Ar_b_53 q_b_53 S_b_53 N_b_53 H_b_53 G_b_53 (fits_nar_char _) W103 5 rfl (Nat.le_of_ble_eq_true rfl)
  have O103 := O102.wr W103 gb
  have KK103 : Keep h0 h103 [b] := KK102.wr W103 (Or.inl (List.mem_of_getElem? (i := 0) rfl))
  have N103 := Fr.snoc X103 N102 gb
  refine ⟨_, _, _, X103, e103, N103, KK103, V_b_103, fun target k => ?_⟩
  show Steps p.tables e below (T0.setTop (mkF m 119 #[.val (.int p1), .val (.int p2), .val (.int 1), .val (.int x3), .val (.int x4), .val (.ref b), .unset] [])) _
  refine XS.aload X0.here hx rfl (hb hby at_119) rfl rfl ?_
  refine XS.iloadN X0.here hx rfl (hb hby at_121) rfl ?_
  refine XS.bipush X0.here hx rfl (hb hby at_122) ?_
  show Steps p.tables e below (T0.setTop (mkF m 124 #[.val (.int p1), .val (.int p2), .val (.int 1), .val (.int x3), .val (.int x4), .val (.ref b), .unset] [(.int 46), (.int 1), (.ref b)])) _
  refine st101 _ ?_
  show Steps p.tables e below (T101.setTop (mkF m 125 #[.val (.int p1), .val (.int p2), .val (.int 1), .val (.int x3), .val (.int x4), .val (.ref b), .unset] [])) _
  refine XS.iloadN X101.here hx rfl (hb hby at_125) rfl ?_
  refine XS.ifNo X101.here hx rfl (hb hby at_126) rfl ((if0 _ _).trans (feq k3).1) ?_
  refine XS.iloadN X101.here hx rfl (hb hby at_129) rfl ?_
  show Steps p.tables e below (T101.setTop (mkF m 130 #[.val (.int p1), .val (.int p2), .val (.int 1), .val (.int x3), .val (.int x4), .val (.ref b), .unset] [(.int 1)])) _
  refine XS.iconst X101.here hx rfl (hb hby at_130) ?_
  refine XS.icmpNo X101.here hx rfl (hb hby at_131) rfl (flt (by decide : ¬ ((4 : Int32) < (1 : Int32)))).2.2.1 ?_
  refine XS.aload X101.here hx rfl (hb hby at_134) rfl rfl ?_
  show Steps p.tables e below (T101.setTop (mkF m 136 #[.val (.int p1), .val (.int p2), .val (.int 1), .val (.int x3), .val (.int x4), .val (.ref b), .unset] [(.ref b)])) _
  refine XS.iloadN X101.here hx rfl (hb hby at_136) rfl ?_
  refine XS.iconst X101.here hx rfl (hb hby at_137) ?_
  show Steps p.tables e below (T101.setTop (mkF m 138 #[.val (.int p1), .val (.int p2), .val (.int 1), .val (.int x3), .val (.int x4), .val (.ref b), .unset] [(.int 2), (.int 1), (.ref b)])) _
  refine XS.iadd X101.here hx rfl (hb hby at_138) rfl ?_
  rw [show ((1 : Int32) + (2 : Int32)) = (3 : Int32) from by decide]
  show Steps p.tables e below (T101.setTop (mkF m 139 #[.val (.int p1), .val (.int p2), .val (.int 1), .val (.int x3), .val (.int x4), .val (.ref b), .unset] [(.int 3), (.ref b)])) _
  refine XS.bipush X101.here hx rfl (hb hby at_139) ?_
  show Steps p.tables e below (T101.setTop (mkF m 141 #[.val (.int p1), .val (.int p2), .val (.int 1), .val (.int x3), .val (.int x4), .val (.ref b), .unset] [(.int 46), (.int 3), (.ref b)])) _
  refine st102 _ ?_
  show Steps p.tables e below (T102.setTop (mkF m 142 #[.val (.int p1), .val (.int p2), .val (.int 1), .val (.int x3), .val (.int x4), .val (.ref b), .unset] [])) _
  refine XS.iload X102.here hx rfl (hb hby at_142) rfl ?_
  refine XS.ifNo X102.here hx rfl (hb hby at_144) rfl ((if0 _ _).trans (feq k4).1) ?_
  refine XS.iloadN X102.here hx rfl (hb hby at_147) rfl ?_
  show Steps p.tables e below (T102.setTop (mkF m 148 #[.val (.int p1), .val (.int p2), .val (.int 1), .val (.int x3), .val (.int x4), .val (.ref b), .unset] [(.int 1)])) _
  refine XS.iconst X102.here hx rfl (hb hby at_148) ?_
  refine XS.icmpNo X102.here hx rfl (hb hby at_149) rfl (flt (by decide : ¬ ((2 : Int32) < (1 : Int32)))).2.2.1 ?_
  refine XS.aload X102.here hx rfl (hb hby at_152) rfl rfl ?_
  show Steps p.tables e below (T102.setTop (mkF m 154 #[.val (.int p1), .val (.int p2), .val (.int 1), .val (.int x3), .val (.int x4), .val (.ref b), .unset] [(.ref b)])) _
  refine XS.iloadN X102.here hx rfl (hb hby at_154) rfl ?_
  refine XS.iconst X102.here hx rfl (hb hby at_155) ?_
  show Steps p.tables e below (T102.setTop (mkF m 156 #[.val (.int p1), .val (.int p2), .val (.int 1), .val (.int x3), .val (.int x4), .val (.ref b), .unset] [(.int 4), (.int 1), (.ref b)])) _
  refine XS.iadd X102.here hx rfl (hb hby at_156) rfl ?_
  rw [show ((1 : Int32) + (4 : Int32)) = (5 : Int32) from by decide]
  show Steps p.tables e below (T102.setTop (mkF m 157 #[.val (.int p1), .val (.int p2), .val (.int 1), .val (.int x3), .val (.int x4), .val (.ref b), .unset] [(.int 5), (.ref b)])) _
  refine XS.bipush X102.here hx rfl (hb hby at_157) ?_
  show Steps p.tables e below (T102.setTop (mkF m 159 #[.val (.int p1), .val (.int p2), .val (.int 1), .val (.int x3), .val (.int x4), .val (.ref b), .unset] [(.int 46), (.int 5), (.ref b)])) _
  refine st103 _ ?_
  exact k
theorem sg2_1 (l : Launch) (Z : State) (a0 : Array Value) (hw : ∀ d ∈ tables_1, d.before a0 Z = true) (p1 p2 x3 x4 f2 f4 : Int32) (b : Addr) (kb : ClassId) (d0 d1 d2 d3 d4 d5 d6 d7 : Int32) {p : Program} {e : Env} {s : State} {m : MethodId} {args : Array Value} {below : List Frame} {meth : Method} {c : Code} {T0 : State} {L0 : List Loc} (h0 : Heap) (n0 : Nat) (O0 : Old Z n0 h0) (hx : p.tables.exec = Jvm.exec) (hby : c.code = code) (hml : c.maxLocals = 7) (hown : s.vm.findClass "io/roadcrew/resolve/VersionReaderMajorPinLaw" = some m.cls) (hZ : Z.Warmed39 s.vm) (X0 : Stand p l e room_1 s m args below meth c T0 L0 1 8) (e0 : T0.heap = h0) (N0 : Fr n0 L0) (K : Arv Z h0 b kb .char (8 : Int32) [(.int d0), (.int d1), (.int d2), (.int d3), (.int d4), (.int d5), (.int d6), (.int d7)] (.int (0 : Int32))) (gb : n0 ≤ b) (hf2 : f2 = if x3 = (0 : Int32) then d3 else (46 : Int32)) (hf4 : f4 = if x4 = (0 : Int32) then d5 else (46 : Int32)) :
    ∃ (T' : State) (h' : Heap) (L' : List Loc), Stand p l e room_1 s m args below meth c T' L' 1 8 ∧ T'.heap = h' ∧ Fr n0 L' ∧ Keep h0 h' [b] ∧ Arv Z h' b kb .char (8 : Int32) [(.int d0), (.int (46 : Int32)), (.int d2), (.int f2), (.int d4), (.int f4), (.int d6), (.int d7)] (.int (0 : Int32)) ∧ (∀ target, Steps p.tables e below (T'.setTop (mkF m 160 #[.val (.int p1), .val (.int p2), .val (.int 1), .val (.int x3), .val (.int x4), .val (.ref b), .unset] [])) target → Steps p.tables e below (T0.setTop (mkF m 119 #[.val (.int p1), .val (.int p2), .val (.int 1), .val (.int x3), .val (.int x4), .val (.ref b), .unset] [])) target) := by
  by_cases k3 : x3 = (0 : Int32)
  · rw [if_pos k3] at hf2; rw [hf2]
    by_cases k4 : x4 = (0 : Int32)
    · rw [if_pos k4] at hf4; rw [hf4]; exact sg2_100 l Z a0 hw p1 p2 x3 x4 b kb d0 d1 d2 d3 d4 d5 d6 d7 h0 n0 O0 hx hby hml hown hZ X0 e0 N0 K gb k3 k4
    · rw [if_neg k4] at hf4; rw [hf4]; exact sg2_101 l Z a0 hw p1 p2 x3 x4 b kb d0 d1 d2 d3 d4 d5 d6 d7 h0 n0 O0 hx hby hml hown hZ X0 e0 N0 K gb k3 k4
  · rw [if_neg k3] at hf2; rw [hf2]
    by_cases k4 : x4 = (0 : Int32)
    · rw [if_pos k4] at hf4; rw [hf4]; exact sg2_110 l Z a0 hw p1 p2 x3 x4 b kb d0 d1 d2 d3 d4 d5 d6 d7 h0 n0 O0 hx hby hml hown hZ X0 e0 N0 K gb k3 k4
    · rw [if_neg k4] at hf4; rw [hf4]; exact sg2_111 l Z a0 hw p1 p2 x3 x4 b kb d0 d1 d2 d3 d4 d5 d6 d7 h0 n0 O0 hx hby hml hown hZ X0 e0 N0 K gb k3 k4
theorem own_w_backV : ∀ d ∈ StrChars.Road.words, d ∈ tables_1 := by decide +kernel
theorem pd_15 : parseMethodDescriptor "([C)V" = some ⟨[(.array .char)], none⟩ := by decide +kernel
abbrev y2 : MethodName := ⟨"java/lang/String", "<init>", "([C)V"⟩
theorem pd_16 : parseMethodDescriptor "(Ljava/lang/String;)Ljava/lang/String;" = some ⟨[(.object "java/lang/String")], some (.object "java/lang/String")⟩ := by decide +kernel
theorem pd_17 : parseMethodDescriptor "(Ljava/lang/String;III)Z" = some ⟨[(.object "java/lang/String"), .int, .int, .int], some .boolean⟩ := by decide +kernel
theorem ef_II_7m (m : MethodId) (x0 : Int32) (x1 : Int32) : entryFrame m #[(.int x0), (.int x1)] maxLocals = mkF m 0 #[.val (.int x0), .val (.int x1), .unset, .unset, .unset, .unset, .unset] [] := by first | (simp [entryFrame, mkF, argsToLocals, Value.category, maxLocals]; done) | rfl
set_option maxRecDepth 65536 in
set_option maxHeartbeats 40000000 in
theorem rm0_1 (l : Launch) (Z : State) (a0 : Array Value) (hw : ∀ d ∈ tables_1, d.before a0 Z = true) (ws : List Jvm.Cond) (p1 p2 : Int32) (G1 : Int32) (G3 : Value) (x3 x4 f2 f4 : Int32) (d0 d1 d2 d3 d4 d5 d6 d7 : Int32) (h0 : Heap) (n0 : Nat) (O0 : Old Z n0 h0) (S_CS : Sta Z Z.heap "java/lang/String" "COMPACT_STRINGS" "Z" (.int G1)) (hG1 : ¬ (G1 = (0 : Int32))) (S_SF : Sta Z Z.heap "jdk/internal/util/Preconditions" "SIOOBE_FORMATTER" "Ljava/util/function/BiFunction;" G3) (rG3 : G3.isRef = true) (hd0 : d0 = dig p1 (0 : Int32)) (hd1 : d1 = dig p1 (1 : Int32)) (hd2 : d2 = dig p1 (2 : Int32)) (hd3 : d3 = dig p1 (3 : Int32)) (hd4 : d4 = dig p1 (4 : Int32)) (hd5 : d5 = dig p1 (5 : Int32)) (hd6 : d6 = dig p1 (6 : Int32)) (hd7 : d7 = dig p1 (7 : Int32)) (h3 : x3 = if (p2 &&& (8 : Int32)) = (0 : Int32) then (0 : Int32) else (1 : Int32)) (h4 : x4 = if (p2 &&& (16 : Int32)) = (0 : Int32) then (0 : Int32) else (1 : Int32)) (hf2 : f2 = if x3 = (0 : Int32) then d3 else (46 : Int32)) (hf4 : f4 = if x4 = (0 : Int32) then d5 else (46 : Int32)) (hg2 : ¬ f2 < 0 ∧ ¬ (255 : Int32) < f2) (hg4 : ¬ f4 < 0 ∧ ¬ (255 : Int32) < f4) (hm : ((irm (p2 &&& (7 : Int32)) (6 : Int32)) + (1 : Int32)) = (1 : Int32)) :
    MetFree l x (head1 (Jvm.Cond.code x code maxLocals ret :: ws) room_1) (fun a_ U => a_ = #[(.int p1), (.int p2)] ∧ Z.Warmed39 U.vm ∧ U.heap = h0) (fun _ _ _ _ _ => True) (fun _ U o U' => ∃ v L, o = .returned v ∧ Q0 h0 n0 v U'.heap L ∧ FrameEnd U o U' L room_1.cells room_1.slots) := by
  refine MetFree.of_bodySF (plainFor_of_name pn_0) hisR ?_
  intro p e s m args below meth c s₁ Bd hml0 hP hK
  obtain ⟨rfl, hZ, hh⟩ := hP
  have hx := Bd.exec
  have hby := Bd.bytes
  have hml : c.maxLocals = 7 := hml0
  have hown : s.vm.findClass "io/roadcrew/resolve/VersionReaderMajorPinLaw" = some m.cls := findClass_of_methodNamed Bd.named
  have hnm := (name_of_methodNamed Bd.named Bd.method).1
  have X0 : Stand p l e room_1 s m #[(.int p1), (.int p2)] below meth c s₁ [] 0 0 := Stand.of_body Bd
  have e0 : s₁.heap = h0 := by rw [← hh, Bd.state]; rfl
  have N0 := Fr.nil n0
  have pre0 : ∀ tg, Steps p.tables e below (s₁.setTop (mkF m 0 #[.val (.int p1), .val (.int p2), .unset, .unset, .unset, .unset, .unset] [])) tg → Steps p.tables e below (s₁.setTop (entryFrame m #[(.int p1), (.int p2)] maxLocals)) tg := fun tg kq => castTop (ef_II_7m m p1 p2) kq
  obtain ⟨T101, h101, L101, b101, kb101, X101, e101, Ns101, K101, szb101, Vb101, st101⟩ := sg1 l Z a0 hw p1 p2 (1 : Int32) x3 x4 d0 d1 d2 d3 d4 d5 d6 d7 h0 n0 O0 hx hby hml hown hZ X0 e0 N0 hd0 hd1 hd2 hd3 hd4 hd5 hd6 hd7
  have g_b101 : n0 ≤ b101 := Nat.le_trans (O0.1 ▸ O0.2.1) szb101
  have sz_b101 : h0.size ≤ b101 := Nat.le_trans (Nat.le_refl _) szb101
  have O101 := O0.keep K101 all0
  have KK101 : Keep h0 h101 [] := (Keep.refl h0 []).trans K101 all0
  obtain ⟨T102, h102, L102, X102, e102, Ns102, K102, Vc102, st102⟩ := sg2_1 l Z a0 hw p1 p2 x3 x4 f2 f4 b101 kb101 d0 d1 d2 d3 d4 d5 d6 d7 h101 n0 O101 hx hby hml hown hZ X101 e101 Ns101 Vb101 g_b101 hf2 hf4
  have O102 := O101.keep K102 (allS g_b101 all0)
  have KK102 : Keep h0 h102 [] := KK101.trans K102 (allS (Or.inr sz_b101) all0)
  obtain ⟨T103, h103, X103, e103, E103, A103, D103, -, st103⟩ := newO X102 hx hZ hown (wi hw 5 rfl) (wi hw 6 rfl) (wi hw 7 rfl) e102 (g := (mkF m 160 #[.val (.int p1), .val (.int p2), .val (.int 1), .val (.int x3), .val (.int x4), .val (.ref b101), .unset] [])) rfl (hb hby at_160) (by decide) (by decide)
  obtain ⟨b103, g103⟩ : ∃ z, z = h102.size := ⟨_, rfl⟩
  rw [← g103] at A103 D103 st103
  have g_b103 : n0 ≤ b103 := Nat.le_trans (O102.1 ▸ O102.2.1) (Nat.le_of_eq g103.symm)
  have sz_b103 : h0.size ≤ b103 := Nat.le_trans KK102.1 (Nat.le_of_eq g103.symm)
  have O103 := O102.ext E103
  have KK103 : Keep h0 h103 [] := KK102.ext E103
  have F_coder_b103 : Fld Z h103 b103 "java/lang/String" "coder" "B" (.int 0) := D103 (Or.inr (wi hw 31 rfl)) (ty := .byte) (by decide)
  have F_value_b103 : Fld Z h103 b103 "java/lang/String" "value" "[B" .null := D103 (Or.inr (wi hw 33 rfl)) (ty := (.array .byte)) (by decide)
  have fV_b101_3_104 := (Vc102.ext E103)
  have shp105 : ∀ c ∈ ([d0, (46 : Int32), d2, f2, d4, f4, d6, d7] : List Int32), ¬ c < 0 ∧ ¬ (255 : Int32) < c := (own_memS (own_dd hd0).1 (own_memS (by decide) (own_memS (own_dd hd2).1 (own_memS hg2 (own_memS (own_dd hd4).1 (own_memS hg4 (own_memS (own_dd hd6).1 (own_memS (own_dd hd7).1 own_mem0))))))))
  have sA105 : Arv Z h103 b101 kb101 .char (8 : Int32) (([d0, (46 : Int32), d2, f2, d4, f4, d6, d7] : List Int32).map Value.int) (.int (0 : Int32)) := fV_b101_3_104
  obtain ⟨_, _, ⟨T106, L106, k106, n106⟩, -, X106, ⟨Lc106, hQ106, l106, y106, z106⟩, st106⟩ := X103.specialBack hx (y := y2) rfl hown (mvT hZ (wi hw 8 rfl)) (mvT hZ (wi hw 9 rfl)) (mvT hZ (wi hw 10 rfl)) (by decide) (StrChars.Road.backV (W := 1) hZ (fun d hd => hw d (own_w_backV d hd)) (kI := 4) (wi hw 6 rfl) (cs := ([d0, (46 : Int32), d2, f2, d4, f4, d6, d7] : List Int32)) (bs := ([d0, (46 : Int32), d2, f2, d4, f4, d6, d7] : List Int32).map (fun c => c.toInt8.toInt32)) (n := 8) g_b103 (O103.1 ▸ O103.2.1) A103 F_value_b103 F_coder_b103 sA105 (S_CS.ext O103.2) hG1 rfl rfl (by decide) (by decide) shp105 rfl (by decide) (by decide)) (g := (mkF m 166 #[.val (.int p1), .val (.int p2), .val (.int 1), .val (.int x3), .val (.int x4), .val (.ref b101), .unset] [(.ref b101), (.ref b103), (.ref b103)])) rfl (by rw [hml]; rfl) (Steps.refl _) (a := b103) (argsL := [(.ref b101)]) (rest := [(.ref b103)]) (lenOf pd_15 rfl) rfl (by show 2 * 0 + _ ≤ _; exact Nat.le_of_eq rfl) (hb hby at_166) (fun _ _ => ⟨rfl, e103, (by decide : 2 + 1 ≤ _), (by decide : 12 + 8 ≤ _)⟩)
  dsimp only [Pt.U, Pt.locs, Pt.cells, Pt.slots] at X106 l106 y106 z106 st106 hQ106
  subst l106 y106 z106
  obtain ⟨rfl, N106q, K106, sE105, sC105, t105, kb105, sg105, ssz105, sne105, sV105, sK105⟩ := hQ106
  obtain ⟨h106, e106⟩ : ∃ z, T106.heap = z := ⟨_, rfl⟩
  rw [e106] at K106 sE105 sC105 sV105 sK105
  have g_t105 : n0 ≤ t105 := Nat.le_trans (O103.1 ▸ O103.2.1) ssz105
  have sz_t105 : h0.size ≤ t105 := Nat.le_trans KK103.1 ssz105
  have O106 := O103.keep K106 (allS g_b103 all0)
  have KK106 : Keep h0 h106 [] := KK103.trans K106 (allS (Or.inr sz_b103) all0)
  have N106 := Fr.app Ns102 N106q
  have scd105 : StrChars.Road.CodA ([d0, (46 : Int32), d2, f2, d4, f4, d6, d7] : List Int32) 0 (8 : Int32) ((([d0, (46 : Int32), d2, f2, d4, f4, d6, d7] : List Int32).map (fun c => c.toInt8.toInt32)).map Value.int) := StrChars.Road.codOf (n := 8) rfl (fun c hc => (shp105 c hc).2)
  obtain ⟨_, _, ⟨T108, L108, k108, n108⟩, -, X108, ⟨Lc108, hQ108, l108, y108, z108⟩, st108⟩ := Jvm.LawKit.callS X106 hx (y := y8) hown (mvT hZ (wi hw 34 rfl)) (mvT hZ (wi hw 35 rfl)) (mvT hZ (wi hw 36 rfl)) (mvT hZ (wi hw 37 rfl)) (by decide) (backOf (W := 0) (rmM l Z a0 hw [] G1 G3 b103 (1 : Int32) 1 ([d0, (46 : Int32), d2, f2, d4, f4, d6, d7] : List Int32) ([d0] : List Int32) h106 n0 O106 S_CS hG1 S_SF rG3 ⟨_, _, _, _, sE105, sV105, sC105, sK105, scd105, shp105, (Nat.le_of_ble_eq_true rfl)⟩ rfl ⟨(StrChars.lo8 d0), (StrChars.lo8 (46 : Int32)), (StrChars.lo8 d2), (StrChars.lo8 f2), (StrChars.lo8 d4), (StrChars.lo8 f4), (StrChars.lo8 d6), (StrChars.lo8 d7), Or.inl ⟨rfl, rfl, (own_dd hd0).2⟩⟩ ⟨by decide, by decide, by decide, by decide, by decide, by decide, by decide, rfl⟩ rfl (own_memS (own_dd hd0).1 own_mem0) (Nat.le_of_ble_eq_true rfl)) hZ (wi hw 37 rfl) (wi hw 36 rfl) (by decide) (by decide)) (g := (mkF m 169 #[.val (.int p1), .val (.int p2), .val (.int 1), .val (.int x3), .val (.int x4), .val (.ref b101), .unset] [(.ref b103)])) rfl (by rw [hml]; rfl) (argsL := [(.ref b103)]) (rest := []) (lenOf pd_16 rfl) rfl (by show 2 * 0 + _ ≤ _; exact Nat.le_of_eq rfl) (hb hby at_169) (fun _ _ => ⟨rfl, e106, (by decide : 3 + 2 ≤ _), (by decide : 20 + 12 ≤ _)⟩)
  dsimp only [Pt.U, Pt.locs, Pt.cells, Pt.slots] at X108 l108 y108 z108 st108 hQ108
  subst l108 y108 z108
  obtain ⟨xr, rfl, N108q, K108, szx108, T108q⟩ := hQ108
  obtain ⟨h108, e108⟩ : ∃ z, T108.heap = z := ⟨_, rfl⟩
  rw [e108] at K108 T108q
  obtain ⟨tr107, kbr107, Nr107, vsr107, sEr107, sVr107, sCr107, sKr107, scdr107, shpr107, shlr107⟩ := id T108q
  have g_xr : n0 ≤ xr := Nat.le_trans (O106.1 ▸ O106.2.1) szx108
  have sz_xr : h0.size ≤ xr := Nat.le_trans KK106.1 szx108
  have O108 := O106.keep K108 all0
  have KK108 : Keep h0 h108 [] := KK106.trans K108 all0
  have N108 := Fr.app N106 N108q
  obtain ⟨cq109, kq109, q109a, q109b, q109c⟩ := isOf hZ e108 sEr107
  obtain ⟨_, _, ⟨T109, L109, k109, n109⟩, -, X109, ⟨Lc109, hQ109, l109, y109, z109⟩, st109⟩ := X108.virtualBack hx (y := y12) (z := y12) hown (mvT hZ (wi hw 115 rfl)) (mvT hZ (wi hw 54 rfl)) (notFace_of_selects (args := #[]) (mvT hZ (wi hw 56 rfl))) (mvT hZ (wi hw 56 rfl)) (mvT hZ (wi hw 55 rfl)) (by decide) (StrChars.Road.lenW (W := 0) hZ (fun d hd => hw d (own_w_lenW d hd)) (kI := 4) (wi hw 6 rfl) sEr107 sVr107 sCr107 sKr107 scdr107 (own_up _ shpr107) (S_CS.ext O108.2) hG1 shlr107 (by decide) (by decide)) q109a q109c (g := (mkF m 176 #[.val (.int p1), .val (.int p2), .val (.int 1), .val (.int x3), .val (.int x4), .val (.ref b101), .val (.ref xr)] [(.ref xr)])) rfl (by rw [hml]; rfl) (Steps.refl _) (argsL := []) (rest := []) (lenOf pd_5 rfl) rfl (by show 2 * 0 + _ ≤ _; exact Nat.le_of_eq rfl) (hb hby at_176) (fun _ _ => ⟨rfl, e108, (by decide : 5 + 0 ≤ _), (by decide : 32 + 0 ≤ _)⟩)
  dsimp only [Pt.U, Pt.locs, Pt.cells, Pt.slots] at X109 l109 y109 z109 st109 hQ109
  subst l109 y109 z109
  obtain ⟨rfl, rfl, hh109⟩ := hQ109
  have N109q : Fr n0 ([] : List Loc) := Fr.nil n0
  have e109 : T109.heap = h108 := hh109
  have N109 := Fr.app N108 N109q
  obtain ⟨_, _, ⟨T110, L110, k110, n110⟩, -, X110, ⟨Lc110, hQ110, l110, y110, z110⟩, st110⟩ := Jvm.LawKit.callS X109 hx (y := y27) hown (mvT hZ (wi hw 116 rfl)) (mvT hZ (wi hw 117 rfl)) (mvT hZ (wi hw 3 rfl)) (mvT hZ (wi hw 118 rfl)) (by decide) (backOf (W := 0) (rmA_lt l Z a0 hw [] G1 G3 xr (0 : Int32) (1 : Int32) p1 0 ([d0] : List Int32) h108 n0 O108 S_CS hG1 S_SF rG3 ⟨_, _, _, _, sEr107, sVr107, sCr107, sKr107, scdr107, shpr107, shlr107⟩ (by decide) (by decide) (Nat.le_of_ble_eq_true rfl) hd0) hZ (wi hw 118 rfl) (wi hw 3 rfl) (by decide) (by decide)) (g := (mkF m 188 #[.val (.int p1), .val (.int p2), .val (.int 1), .val (.int x3), .val (.int x4), .val (.ref b101), .val (.ref xr)] [(.int p1), (.int 1), (.int 0), (.ref xr)])) rfl (by rw [hml]; rfl) (argsL := [(.ref xr), (.int 0), (.int 1), (.int p1)]) (rest := []) (lenOf pd_17 rfl) rfl (by show 2 * 0 + _ ≤ _; exact Nat.le_of_eq rfl) (hb hby at_188) (fun _ _ => ⟨rfl, e109, (by decide : 5 + 0 ≤ _), (by decide : 32 + 0 ≤ _)⟩)
  dsimp only [Pt.U, Pt.locs, Pt.cells, Pt.slots] at X110 l110 y110 z110 st110 hQ110
  subst l110 y110 z110
  obtain ⟨rfl, N110q, hh110⟩ := hQ110
  have e110 : T110.heap = h108 := hh110
  have N110 := Fr.app N109 N110q
  obtain ⟨_, _, ⟨T111, L111, k111, n111⟩, -, X111, ⟨Lc111, hQ111, l111, y111, z111⟩, st111⟩ := Jvm.LawKit.callS X110 hx (y := y27) hown (mvT hZ (wi hw 116 rfl)) (mvT hZ (wi hw 117 rfl)) (mvT hZ (wi hw 3 rfl)) (mvT hZ (wi hw 118 rfl)) (by decide) (backOf (W := 0) (rmA_ge l Z a0 hw [] xr (1 : Int32) (1 : Int32) p1 h108 n0 O108 (by decide)) hZ (wi hw 118 rfl) (wi hw 3 rfl) (by decide) (by decide)) (g := (mkF m 199 #[.val (.int p1), .val (.int p2), .val (.int 1), .val (.int x3), .val (.int x4), .val (.ref b101), .val (.ref xr)] [(.int p1), (.int 1), (.int 1), (.ref xr)])) rfl (by rw [hml]; rfl) (argsL := [(.ref xr), (.int 1), (.int 1), (.int p1)]) (rest := []) (lenOf pd_17 rfl) rfl (by show 2 * 0 + _ ≤ _; exact Nat.le_of_eq rfl) (hb hby at_199) (fun _ _ => ⟨rfl, e110, (by decide : 5 + 0 ≤ _), (by decide : 32 + 0 ≤ _)⟩)
  dsimp only [Pt.U, Pt.locs, Pt.cells, Pt.slots] at X111 l111 y111 z111 st111 hQ111
  subst l111 y111 z111
  obtain ⟨rfl, N111q, hh111⟩ := hQ111
  have e111 : T111.heap = h108 := hh111
  have N111 := Fr.app N110 N111q
  obtain ⟨_, _, ⟨T112, L112, k112, n112⟩, -, X112, ⟨Lc112, hQ112, l112, y112, z112⟩, st112⟩ := Jvm.LawKit.callS X111 hx (y := y27) hown (mvT hZ (wi hw 116 rfl)) (mvT hZ (wi hw 117 rfl)) (mvT hZ (wi hw 3 rfl)) (mvT hZ (wi hw 118 rfl)) (by decide) (backOf (W := 0) (rmA_ge l Z a0 hw [] xr (2 : Int32) (1 : Int32) p1 h108 n0 O108 (by decide)) hZ (wi hw 118 rfl) (wi hw 3 rfl) (by decide) (by decide)) (g := (mkF m 210 #[.val (.int p1), .val (.int p2), .val (.int 1), .val (.int x3), .val (.int x4), .val (.ref b101), .val (.ref xr)] [(.int p1), (.int 1), (.int 2), (.ref xr)])) rfl (by rw [hml]; rfl) (argsL := [(.ref xr), (.int 2), (.int 1), (.int p1)]) (rest := []) (lenOf pd_17 rfl) rfl (by show 2 * 0 + _ ≤ _; exact Nat.le_of_eq rfl) (hb hby at_210) (fun _ _ => ⟨rfl, e111, (by decide : 5 + 0 ≤ _), (by decide : 32 + 0 ≤ _)⟩)
  dsimp only [Pt.U, Pt.locs, Pt.cells, Pt.slots] at X112 l112 y112 z112 st112 hQ112
  subst l112 y112 z112
  obtain ⟨rfl, N112q, hh112⟩ := hQ112
  have e112 : T112.heap = h108 := hh112
  have N112 := Fr.app N111 N112q
  obtain ⟨_, _, ⟨T113, L113, k113, n113⟩, -, X113, ⟨Lc113, hQ113, l113, y113, z113⟩, st113⟩ := Jvm.LawKit.callS X112 hx (y := y27) hown (mvT hZ (wi hw 116 rfl)) (mvT hZ (wi hw 117 rfl)) (mvT hZ (wi hw 3 rfl)) (mvT hZ (wi hw 118 rfl)) (by decide) (backOf (W := 0) (rmA_ge l Z a0 hw [] xr (3 : Int32) (1 : Int32) p1 h108 n0 O108 (by decide)) hZ (wi hw 118 rfl) (wi hw 3 rfl) (by decide) (by decide)) (g := (mkF m 221 #[.val (.int p1), .val (.int p2), .val (.int 1), .val (.int x3), .val (.int x4), .val (.ref b101), .val (.ref xr)] [(.int p1), (.int 1), (.int 3), (.ref xr)])) rfl (by rw [hml]; rfl) (argsL := [(.ref xr), (.int 3), (.int 1), (.int p1)]) (rest := []) (lenOf pd_17 rfl) rfl (by show 2 * 0 + _ ≤ _; exact Nat.le_of_eq rfl) (hb hby at_221) (fun _ _ => ⟨rfl, e112, (by decide : 5 + 0 ≤ _), (by decide : 32 + 0 ≤ _)⟩)
  dsimp only [Pt.U, Pt.locs, Pt.cells, Pt.slots] at X113 l113 y113 z113 st113 hQ113
  subst l113 y113 z113
  obtain ⟨rfl, N113q, hh113⟩ := hQ113
  have e113 : T113.heap = h108 := hh113
  have N113 := Fr.app N112 N113q
  obtain ⟨_, _, ⟨T114, L114, k114, n114⟩, -, X114, ⟨Lc114, hQ114, l114, y114, z114⟩, st114⟩ := Jvm.LawKit.callS X113 hx (y := y27) hown (mvT hZ (wi hw 116 rfl)) (mvT hZ (wi hw 117 rfl)) (mvT hZ (wi hw 3 rfl)) (mvT hZ (wi hw 118 rfl)) (by decide) (backOf (W := 0) (rmA_ge l Z a0 hw [] xr (4 : Int32) (1 : Int32) p1 h108 n0 O108 (by decide)) hZ (wi hw 118 rfl) (wi hw 3 rfl) (by decide) (by decide)) (g := (mkF m 232 #[.val (.int p1), .val (.int p2), .val (.int 1), .val (.int x3), .val (.int x4), .val (.ref b101), .val (.ref xr)] [(.int p1), (.int 1), (.int 4), (.ref xr)])) rfl (by rw [hml]; rfl) (argsL := [(.ref xr), (.int 4), (.int 1), (.int p1)]) (rest := []) (lenOf pd_17 rfl) rfl (by show 2 * 0 + _ ≤ _; exact Nat.le_of_eq rfl) (hb hby at_232) (fun _ _ => ⟨rfl, e113, (by decide : 5 + 0 ≤ _), (by decide : 32 + 0 ≤ _)⟩)
  dsimp only [Pt.U, Pt.locs, Pt.cells, Pt.slots] at X114 l114 y114 z114 st114 hQ114
  subst l114 y114 z114
  obtain ⟨rfl, N114q, hh114⟩ := hQ114
  have e114 : T114.heap = h108 := hh114
  have N114 := Fr.app N113 N114q
  obtain ⟨_, _, ⟨T115, L115, k115, n115⟩, -, X115, ⟨Lc115, hQ115, l115, y115, z115⟩, st115⟩ := Jvm.LawKit.callS X114 hx (y := y27) hown (mvT hZ (wi hw 116 rfl)) (mvT hZ (wi hw 117 rfl)) (mvT hZ (wi hw 3 rfl)) (mvT hZ (wi hw 118 rfl)) (by decide) (backOf (W := 0) (rmA_ge l Z a0 hw [] xr (5 : Int32) (1 : Int32) p1 h108 n0 O108 (by decide)) hZ (wi hw 118 rfl) (wi hw 3 rfl) (by decide) (by decide)) (g := (mkF m 243 #[.val (.int p1), .val (.int p2), .val (.int 1), .val (.int x3), .val (.int x4), .val (.ref b101), .val (.ref xr)] [(.int p1), (.int 1), (.int 5), (.ref xr)])) rfl (by rw [hml]; rfl) (argsL := [(.ref xr), (.int 5), (.int 1), (.int p1)]) (rest := []) (lenOf pd_17 rfl) rfl (by show 2 * 0 + _ ≤ _; exact Nat.le_of_eq rfl) (hb hby at_243) (fun _ _ => ⟨rfl, e114, (by decide : 5 + 0 ≤ _), (by decide : 32 + 0 ≤ _)⟩)
  dsimp only [Pt.U, Pt.locs, Pt.cells, Pt.slots] at X115 l115 y115 z115 st115 hQ115
  subst l115 y115 z115
  obtain ⟨rfl, N115q, hh115⟩ := hQ115
  have e115 : T115.heap = h108 := hh115
  have N115 := Fr.app N114 N115q
  obtain ⟨fs, hr, hrun, hended, hW, hsame⟩ := X115.leave (v := some (.int 1)) (fun h => by rw [Bd.returns] at h; cases h)
  refine ⟨_, _, pre0 _ ?_, hrun, hended, _, _, rfl, ?_, ⟨_, rfl⟩, hW, hsame.mono (by decide) (by decide)⟩
  · show Steps p.tables e below (s₁.setTop (mkF m 0 #[.val (.int p1), .val (.int p2), .unset, .unset, .unset, .unset, .unset] [])) _
    refine XS.iloadN X0.here hx rfl (hb hby at_0) rfl ?_
    refine XS.bipush X0.here hx rfl (hb hby at_1) ?_
    refine XS.iand X0.here hx rfl (hb hby at_3) rfl ?_
    show Steps p.tables e below (s₁.setTop (mkF m 4 #[.val (.int p1), .val (.int p2), .unset, .unset, .unset, .unset, .unset] [(.int (p2 &&& (7 : Int32)))])) _
    refine XS.bipush X0.here hx rfl (hb hby at_4) ?_
    refine XS.irem X0.here hx rfl (hb hby at_6) rfl (by decide) ?_
    refine XS.iconst X0.here hx rfl (hb hby at_7) ?_
    show Steps p.tables e below (s₁.setTop (mkF m 8 #[.val (.int p1), .val (.int p2), .unset, .unset, .unset, .unset, .unset] [(.int 1), (.int (irm (p2 &&& (7 : Int32)) (6 : Int32)))])) _
    refine XS.iadd X0.here hx rfl (hb hby at_8) rfl ?_
    show Steps p.tables e below (s₁.setTop (mkF m 9 #[.val (.int p1), .val (.int p2), .unset, .unset, .unset, .unset, .unset] [(.int ((irm (p2 &&& (7 : Int32)) (6 : Int32)) + (1 : Int32)))])) _
    rw [hm]
    show Steps p.tables e below (s₁.setTop (mkF m 9 #[.val (.int p1), .val (.int p2), .unset, .unset, .unset, .unset, .unset] [(.int 1)])) _
    refine XS.istoreN X0.here hx rfl (hb hby at_9) rfl (l' := #[.val (.int p1), .val (.int p2), .val (.int 1), .unset, .unset, .unset, .unset]) rfl ?_
    show Steps p.tables e below (s₁.setTop (mkF m 10 #[.val (.int p1), .val (.int p2), .val (.int 1), .unset, .unset, .unset, .unset] [])) _
    refine seg10 X0 hx hby p1 p2 (1 : Int32) x3 h3 ?_
    show Steps p.tables e below (s₁.setTop (mkF m 22 #[.val (.int p1), .val (.int p2), .val (.int 1), .unset, .unset, .unset, .unset] [(.int x3)])) _
    refine XS.istoreN X0.here hx rfl (hb hby at_22) rfl (l' := #[.val (.int p1), .val (.int p2), .val (.int 1), .val (.int x3), .unset, .unset, .unset]) rfl ?_
    show Steps p.tables e below (s₁.setTop (mkF m 23 #[.val (.int p1), .val (.int p2), .val (.int 1), .val (.int x3), .unset, .unset, .unset] [])) _
    refine seg23 X0 hx hby p1 p2 (1 : Int32) x3 x4 h4 ?_
    show Steps p.tables e below (s₁.setTop (mkF m 35 #[.val (.int p1), .val (.int p2), .val (.int 1), .val (.int x3), .unset, .unset, .unset] [(.int x4)])) _
    refine XS.istore X0.here hx rfl (hb hby at_35) rfl (l' := #[.val (.int p1), .val (.int p2), .val (.int 1), .val (.int x3), .val (.int x4), .unset, .unset]) rfl ?_
    show Steps p.tables e below (s₁.setTop (mkF m 37 #[.val (.int p1), .val (.int p2), .val (.int 1), .val (.int x3), .val (.int x4), .unset, .unset] [])) _
    refine st101 _ ?_
    show Steps p.tables e below (T101.setTop (mkF m 119 #[.val (.int p1), .val (.int p2), .val (.int 1), .val (.int x3), .val (.int x4), .val (.ref b101), .unset] [])) _
    refine st102 _ ?_
    show Steps p.tables e below (T102.setTop (mkF m 160 #[.val (.int p1), .val (.int p2), .val (.int 1), .val (.int x3), .val (.int x4), .val (.ref b101), .unset] [])) _
    refine st103 _ ?_
    show Steps p.tables e below (T103.setTop (mkF m 163 #[.val (.int p1), .val (.int p2), .val (.int 1), .val (.int x3), .val (.int x4), .val (.ref b101), .unset] [(.ref b103)])) _
    refine XS.dup X103.here hx rfl (hb hby at_163) rfl rfl ?_
    refine XS.aload X103.here hx rfl (hb hby at_164) rfl rfl ?_
    show Steps p.tables e below (T103.setTop (mkF m 166 #[.val (.int p1), .val (.int p2), .val (.int 1), .val (.int x3), .val (.int x4), .val (.ref b101), .unset] [(.ref b101), (.ref b103), (.ref b103)])) _
    refine st106.trans ?_
    show Steps p.tables e below (T106.setTop (mkF m 169 #[.val (.int p1), .val (.int p2), .val (.int 1), .val (.int x3), .val (.int x4), .val (.ref b101), .unset] [(.ref b103)])) _
    refine st108 _ ?_
    show Steps p.tables e below (T108.setTop (mkF m 172 #[.val (.int p1), .val (.int p2), .val (.int 1), .val (.int x3), .val (.int x4), .val (.ref b101), .unset] [(.ref xr)])) _
    refine XS.astore X108.here hx rfl (hb hby at_172) rfl rfl (l' := #[.val (.int p1), .val (.int p2), .val (.int 1), .val (.int x3), .val (.int x4), .val (.ref b101), .val (.ref xr)]) rfl ?_
    refine XS.aload X108.here hx rfl (hb hby at_174) rfl rfl ?_
    show Steps p.tables e below (T108.setTop (mkF m 176 #[.val (.int p1), .val (.int p2), .val (.int 1), .val (.int x3), .val (.int x4), .val (.ref b101), .val (.ref xr)] [(.ref xr)])) _
    refine st109.trans ?_
    show Steps p.tables e below (T109.setTop (mkF m 179 #[.val (.int p1), .val (.int p2), .val (.int 1), .val (.int x3), .val (.int x4), .val (.ref b101), .val (.ref xr)] [(.int 1)])) _
    refine XS.iloadN X109.here hx rfl (hb hby at_179) rfl ?_
    refine XS.icmpNo X109.here hx rfl (hb hby at_180) rfl (teq (by decide : (1 : Int32) = (1 : Int32))).2 ?_
    refine XS.aload X109.here hx rfl (hb hby at_183) rfl rfl ?_
    show Steps p.tables e below (T109.setTop (mkF m 185 #[.val (.int p1), .val (.int p2), .val (.int 1), .val (.int x3), .val (.int x4), .val (.ref b101), .val (.ref xr)] [(.ref xr)])) _
    refine XS.iconst X109.here hx rfl (hb hby at_185) ?_
    refine XS.iloadN X109.here hx rfl (hb hby at_186) rfl ?_
    refine XS.iloadN X109.here hx rfl (hb hby at_187) rfl ?_
    show Steps p.tables e below (T109.setTop (mkF m 188 #[.val (.int p1), .val (.int p2), .val (.int 1), .val (.int x3), .val (.int x4), .val (.ref b101), .val (.ref xr)] [(.int p1), (.int 1), (.int 0), (.ref xr)])) _
    refine st110 _ ?_
    show Steps p.tables e below (T110.setTop (mkF m 191 #[.val (.int p1), .val (.int p2), .val (.int 1), .val (.int x3), .val (.int x4), .val (.ref b101), .val (.ref xr)] [(.int 1)])) _
    refine XS.ifNo X110.here hx rfl (hb hby at_191) rfl ((if0 _ _).trans (feq (by decide : ¬ ((1 : Int32) = (0 : Int32)))).1) ?_
    refine XS.aload X110.here hx rfl (hb hby at_194) rfl rfl ?_
    refine XS.iconst X110.here hx rfl (hb hby at_196) ?_
    show Steps p.tables e below (T110.setTop (mkF m 197 #[.val (.int p1), .val (.int p2), .val (.int 1), .val (.int x3), .val (.int x4), .val (.ref b101), .val (.ref xr)] [(.int 1), (.ref xr)])) _
    refine XS.iloadN X110.here hx rfl (hb hby at_197) rfl ?_
    refine XS.iloadN X110.here hx rfl (hb hby at_198) rfl ?_
    show Steps p.tables e below (T110.setTop (mkF m 199 #[.val (.int p1), .val (.int p2), .val (.int 1), .val (.int x3), .val (.int x4), .val (.ref b101), .val (.ref xr)] [(.int p1), (.int 1), (.int 1), (.ref xr)])) _
    refine st111 _ ?_
    show Steps p.tables e below (T111.setTop (mkF m 202 #[.val (.int p1), .val (.int p2), .val (.int 1), .val (.int x3), .val (.int x4), .val (.ref b101), .val (.ref xr)] [(.int 1)])) _
    refine XS.ifNo X111.here hx rfl (hb hby at_202) rfl ((if0 _ _).trans (feq (by decide : ¬ ((1 : Int32) = (0 : Int32)))).1) ?_
    refine XS.aload X111.here hx rfl (hb hby at_205) rfl rfl ?_
    refine XS.iconst X111.here hx rfl (hb hby at_207) ?_
    show Steps p.tables e below (T111.setTop (mkF m 208 #[.val (.int p1), .val (.int p2), .val (.int 1), .val (.int x3), .val (.int x4), .val (.ref b101), .val (.ref xr)] [(.int 2), (.ref xr)])) _
    refine XS.iloadN X111.here hx rfl (hb hby at_208) rfl ?_
    refine XS.iloadN X111.here hx rfl (hb hby at_209) rfl ?_
    show Steps p.tables e below (T111.setTop (mkF m 210 #[.val (.int p1), .val (.int p2), .val (.int 1), .val (.int x3), .val (.int x4), .val (.ref b101), .val (.ref xr)] [(.int p1), (.int 1), (.int 2), (.ref xr)])) _
    refine st112 _ ?_
    show Steps p.tables e below (T112.setTop (mkF m 213 #[.val (.int p1), .val (.int p2), .val (.int 1), .val (.int x3), .val (.int x4), .val (.ref b101), .val (.ref xr)] [(.int 1)])) _
    refine XS.ifNo X112.here hx rfl (hb hby at_213) rfl ((if0 _ _).trans (feq (by decide : ¬ ((1 : Int32) = (0 : Int32)))).1) ?_
    refine XS.aload X112.here hx rfl (hb hby at_216) rfl rfl ?_
    refine XS.iconst X112.here hx rfl (hb hby at_218) ?_
    show Steps p.tables e below (T112.setTop (mkF m 219 #[.val (.int p1), .val (.int p2), .val (.int 1), .val (.int x3), .val (.int x4), .val (.ref b101), .val (.ref xr)] [(.int 3), (.ref xr)])) _
    refine XS.iloadN X112.here hx rfl (hb hby at_219) rfl ?_
    refine XS.iloadN X112.here hx rfl (hb hby at_220) rfl ?_
    show Steps p.tables e below (T112.setTop (mkF m 221 #[.val (.int p1), .val (.int p2), .val (.int 1), .val (.int x3), .val (.int x4), .val (.ref b101), .val (.ref xr)] [(.int p1), (.int 1), (.int 3), (.ref xr)])) _
    refine st113 _ ?_
    show Steps p.tables e below (T113.setTop (mkF m 224 #[.val (.int p1), .val (.int p2), .val (.int 1), .val (.int x3), .val (.int x4), .val (.ref b101), .val (.ref xr)] [(.int 1)])) _
    refine XS.ifNo X113.here hx rfl (hb hby at_224) rfl ((if0 _ _).trans (feq (by decide : ¬ ((1 : Int32) = (0 : Int32)))).1) ?_
    refine XS.aload X113.here hx rfl (hb hby at_227) rfl rfl ?_
    refine XS.iconst X113.here hx rfl (hb hby at_229) ?_
    show Steps p.tables e below (T113.setTop (mkF m 230 #[.val (.int p1), .val (.int p2), .val (.int 1), .val (.int x3), .val (.int x4), .val (.ref b101), .val (.ref xr)] [(.int 4), (.ref xr)])) _
    refine XS.iloadN X113.here hx rfl (hb hby at_230) rfl ?_
    refine XS.iloadN X113.here hx rfl (hb hby at_231) rfl ?_
    show Steps p.tables e below (T113.setTop (mkF m 232 #[.val (.int p1), .val (.int p2), .val (.int 1), .val (.int x3), .val (.int x4), .val (.ref b101), .val (.ref xr)] [(.int p1), (.int 1), (.int 4), (.ref xr)])) _
    refine st114 _ ?_
    show Steps p.tables e below (T114.setTop (mkF m 235 #[.val (.int p1), .val (.int p2), .val (.int 1), .val (.int x3), .val (.int x4), .val (.ref b101), .val (.ref xr)] [(.int 1)])) _
    refine XS.ifNo X114.here hx rfl (hb hby at_235) rfl ((if0 _ _).trans (feq (by decide : ¬ ((1 : Int32) = (0 : Int32)))).1) ?_
    refine XS.aload X114.here hx rfl (hb hby at_238) rfl rfl ?_
    refine XS.iconst X114.here hx rfl (hb hby at_240) ?_
    show Steps p.tables e below (T114.setTop (mkF m 241 #[.val (.int p1), .val (.int p2), .val (.int 1), .val (.int x3), .val (.int x4), .val (.ref b101), .val (.ref xr)] [(.int 5), (.ref xr)])) _
    refine XS.iloadN X114.here hx rfl (hb hby at_241) rfl ?_
    refine XS.iloadN X114.here hx rfl (hb hby at_242) rfl ?_
    show Steps p.tables e below (T114.setTop (mkF m 243 #[.val (.int p1), .val (.int p2), .val (.int 1), .val (.int x3), .val (.int x4), .val (.ref b101), .val (.ref xr)] [(.int p1), (.int 1), (.int 5), (.ref xr)])) _
    refine st115 _ ?_
    show Steps p.tables e below (T115.setTop (mkF m 246 #[.val (.int p1), .val (.int p2), .val (.int 1), .val (.int x3), .val (.int x4), .val (.ref b101), .val (.ref xr)] [(.int 1)])) _
    refine XS.ifNo X115.here hx rfl (hb hby at_246) rfl ((if0 _ _).trans (feq (by decide : ¬ ((1 : Int32) = (0 : Int32)))).1) ?_
    refine XS.iconst X115.here hx rfl (hb hby at_249) ?_
    refine XS.goto X115.here hx rfl (pc0 := 250) (pc' := 254) rfl (hb hby at_250) (by decide) (by decide) ?_
    show Steps p.tables e below (T115.setTop (mkF m 254 #[.val (.int p1), .val (.int p2), .val (.int 1), .val (.int x3), .val (.int x4), .val (.ref b101), .val (.ref xr)] [(.int 1)])) _
    exact retN X115 hx (t := .boolean) Bd.returns (by simp) (hb hby at_254) hr
  · show Q0 h0 n0 _ T115.heap _
    rw [e115]
    exact ⟨rfl, N115⟩
set_option maxRecDepth 65536 in
set_option maxHeartbeats 40000000 in
theorem sg2_200 (l : Launch) (Z : State) (a0 : Array Value) (hw : ∀ d ∈ tables_1, d.before a0 Z = true) (p1 p2 x3 x4 : Int32) (b : Addr) (kb : ClassId) (d0 d1 d2 d3 d4 d5 d6 d7 : Int32) {p : Program} {e : Env} {s : State} {m : MethodId} {args : Array Value} {below : List Frame} {meth : Method} {c : Code} {T0 : State} {L0 : List Loc} (h0 : Heap) (n0 : Nat) (O0 : Old Z n0 h0) (hx : p.tables.exec = Jvm.exec) (hby : c.code = code) (hml : c.maxLocals = 7) (hown : s.vm.findClass "io/roadcrew/resolve/VersionReaderMajorPinLaw" = some m.cls) (hZ : Z.Warmed39 s.vm) (X0 : Stand p l e room_1 s m args below meth c T0 L0 1 8) (e0 : T0.heap = h0) (N0 : Fr n0 L0) (K : Arv Z h0 b kb .char (8 : Int32) [(.int d0), (.int d1), (.int d2), (.int d3), (.int d4), (.int d5), (.int d6), (.int d7)] (.int (0 : Int32))) (gb : n0 ≤ b) (k3 : x3 = (0 : Int32)) (k4 : x4 = (0 : Int32)) :
    ∃ (T' : State) (h' : Heap) (L' : List Loc), Stand p l e room_1 s m args below meth c T' L' 1 8 ∧ T'.heap = h' ∧ Fr n0 L' ∧ Keep h0 h' [b] ∧ Arv Z h' b kb .char (8 : Int32) [(.int d0), (.int d1), (.int (46 : Int32)), (.int d3), (.int d4), (.int d5), (.int d6), (.int d7)] (.int (0 : Int32)) ∧ (∀ target, Steps p.tables e below (T'.setTop (mkF m 160 #[.val (.int p1), .val (.int p2), .val (.int 2), .val (.int x3), .val (.int x4), .val (.ref b), .unset] [])) target → Steps p.tables e below (T0.setTop (mkF m 119 #[.val (.int p1), .val (.int p2), .val (.int 2), .val (.int x3), .val (.int x4), .val (.ref b), .unset] [])) target) := by
  obtain ⟨cl_b_7, Ar_b_7, q_b_7, S_b_7, N_b_7, H_b_7, G_b_7⟩ := id (K)
  have hinb_7 : ¬ ((2 : Int32) < 0 ∨ cl_b_7.slots.size ≤ ((2 : Int32)).toNatClampNeg) := inb_of S_b_7 ⟨by decide, by decide⟩
  obtain ⟨T101, h101, X101, e101, W101, st101⟩ := stC X0 hx hZ e0 Ar_b_7 (j := (2 : Int32)) hinb_7 (g := (mkF m 124 #[.val (.int p1), .val (.int p2), .val (.int 2), .val (.int x3), .val (.int x4), .val (.ref b), .unset] [(.int 46), (.int 2), (.ref b)])) rfl rfl (hb hby at_124)
  have V_b_101 : Arv Z h101 b kb .char (8 : Int32) [(.int d0), (.int d1), (.int 46), (.int d3), (.int d4), (.int d5), (.int d6), (.int d7)] (.int 0) := Arv.set Ar_b_7 q_b_7 S_b_7 N_b_7 H_b_7 G_b_7 (fits_nar_char _) W101 2 rfl (Nat.le_of_ble_eq_true rfl)
  have O101 := O0.wr W101 gb
  have KK101 : Keep h0 h101 [b] := (Keep.refl h0 [b]).wr W101 (Or.inl (List.mem_of_getElem? (i := 0) rfl))
  have N101 := Fr.snoc X101 N0 gb
  refine ⟨_, _, _, X101, e101, N101, KK101, V_b_101, fun target k => ?_⟩
  show Steps p.tables e below (T0.setTop (mkF m 119 #[.val (.int p1), .val (.int p2), .val (.int 2), .val (.int x3), .val (.int x4), .val (.ref b), .unset] [])) _
  refine XS.aload X0.here hx rfl (hb hby at_119) rfl rfl ?_
  refine XS.iloadN X0.here hx rfl (hb hby at_121) rfl ?_
  refine XS.bipush X0.here hx rfl (hb hby at_122) ?_
  show Steps p.tables e below (T0.setTop (mkF m 124 #[.val (.int p1), .val (.int p2), .val (.int 2), .val (.int x3), .val (.int x4), .val (.ref b), .unset] [(.int 46), (.int 2), (.ref b)])) _
  refine st101 _ ?_
  show Steps p.tables e below (T101.setTop (mkF m 125 #[.val (.int p1), .val (.int p2), .val (.int 2), .val (.int x3), .val (.int x4), .val (.ref b), .unset] [])) _
  refine XS.iloadN X101.here hx rfl (hb hby at_125) rfl ?_
  refine XS.ifYes X101.here hx rfl (pc0 := 126) (pc' := 142) rfl (hb hby at_126) rfl ((if0 _ _).trans (teq k3).1) (by decide) (by decide) ?_
  refine XS.iload X101.here hx rfl (hb hby at_142) rfl ?_
  show Steps p.tables e below (T101.setTop (mkF m 144 #[.val (.int p1), .val (.int p2), .val (.int 2), .val (.int x3), .val (.int x4), .val (.ref b), .unset] [(.int x4)])) _
  refine XS.ifYes X101.here hx rfl (pc0 := 144) (pc' := 160) rfl (hb hby at_144) rfl ((if0 _ _).trans (teq k4).1) (by decide) (by decide) ?_
  exact k
set_option maxRecDepth 65536 in
set_option maxHeartbeats 40000000 in
theorem sg2_201 (l : Launch) (Z : State) (a0 : Array Value) (hw : ∀ d ∈ tables_1, d.before a0 Z = true) (p1 p2 x3 x4 : Int32) (b : Addr) (kb : ClassId) (d0 d1 d2 d3 d4 d5 d6 d7 : Int32) {p : Program} {e : Env} {s : State} {m : MethodId} {args : Array Value} {below : List Frame} {meth : Method} {c : Code} {T0 : State} {L0 : List Loc} (h0 : Heap) (n0 : Nat) (O0 : Old Z n0 h0) (hx : p.tables.exec = Jvm.exec) (hby : c.code = code) (hml : c.maxLocals = 7) (hown : s.vm.findClass "io/roadcrew/resolve/VersionReaderMajorPinLaw" = some m.cls) (hZ : Z.Warmed39 s.vm) (X0 : Stand p l e room_1 s m args below meth c T0 L0 1 8) (e0 : T0.heap = h0) (N0 : Fr n0 L0) (K : Arv Z h0 b kb .char (8 : Int32) [(.int d0), (.int d1), (.int d2), (.int d3), (.int d4), (.int d5), (.int d6), (.int d7)] (.int (0 : Int32))) (gb : n0 ≤ b) (k3 : x3 = (0 : Int32)) (k4 : ¬ (x4 = (0 : Int32))) :
    ∃ (T' : State) (h' : Heap) (L' : List Loc), Stand p l e room_1 s m args below meth c T' L' 1 8 ∧ T'.heap = h' ∧ Fr n0 L' ∧ Keep h0 h' [b] ∧ Arv Z h' b kb .char (8 : Int32) [(.int d0), (.int d1), (.int (46 : Int32)), (.int d3), (.int d4), (.int d5), (.int (46 : Int32)), (.int d7)] (.int (0 : Int32)) ∧ (∀ target, Steps p.tables e below (T'.setTop (mkF m 160 #[.val (.int p1), .val (.int p2), .val (.int 2), .val (.int x3), .val (.int x4), .val (.ref b), .unset] [])) target → Steps p.tables e below (T0.setTop (mkF m 119 #[.val (.int p1), .val (.int p2), .val (.int 2), .val (.int x3), .val (.int x4), .val (.ref b), .unset] [])) target) := by
  obtain ⟨cl_b_7, Ar_b_7, q_b_7, S_b_7, N_b_7, H_b_7, G_b_7⟩ := id (K)
  have hinb_7 : ¬ ((2 : Int32) < 0 ∨ cl_b_7.slots.size ≤ ((2 : Int32)).toNatClampNeg) := inb_of S_b_7 ⟨by decide, by decide⟩
  obtain ⟨T101, h101, X101, e101, W101, st101⟩ := stC X0 hx hZ e0 Ar_b_7 (j := (2 : Int32)) hinb_7 (g := (mkF m 124 #[.val (.int p1), .val (.int p2), .val (.int 2), .val (.int x3), .val (.int x4), .val (.ref b), .unset] [(.int 46), (.int 2), (.ref b)])) rfl rfl (hb hby at_124)
  have V_b_101 : Arv Z h101 b kb .char (8 : Int32) [(.int d0), (.int d1), (.int 46), (.int d3), (.int d4), (.int d5), (.int d6), (.int d7)] (.int 0) := Arv.set Ar_b_7 q_b_7 S_b_7 N_b_7 H_b_7 G_b_7 (fits_nar_char _) W101 2 rfl (Nat.le_of_ble_eq_true rfl)
  have O101 := O0.wr W101 gb
  have KK101 : Keep h0 h101 [b] := (Keep.refl h0 [b]).wr W101 (Or.inl (List.mem_of_getElem? (i := 0) rfl))
  have N101 := Fr.snoc X101 N0 gb
  obtain ⟨cl_b_34, Ar_b_34, q_b_34, S_b_34, N_b_34, H_b_34, G_b_34⟩ := id (V_b_101)
  have hinb_34 : ¬ ((6 : Int32) < 0 ∨ cl_b_34.slots.size ≤ ((6 : Int32)).toNatClampNeg) := inb_of S_b_34 ⟨by decide, by decide⟩
  obtain ⟨T102, h102, X102, e102, W102, st102⟩ := stC X101 hx hZ e101 Ar_b_34 (j := (6 : Int32)) hinb_34 (g := (mkF m 159 #[.val (.int p1), .val (.int p2), .val (.int 2), .val (.int x3), .val (.int x4), .val (.ref b), .unset] [(.int 46), (.int 6), (.ref b)])) rfl rfl (hb hby at_159)
  have V_b_102 : Arv Z h102 b kb .char (8 : Int32) [(.int d0), (.int d1), (.int 46), (.int d3), (.int d4), (.int d5), (.int 46), (.int d7)] (.int 0) := Arv.set Ar_b_34 q_b_34 S_b_34 N_b_34 H_b_34 G_b_34 (fits_nar_char _) W102 6 rfl (Nat.le_of_ble_eq_true rfl)
  have O102 := O101.wr W102 gb
  have KK102 : Keep h0 h102 [b] := KK101.wr W102 (Or.inl (List.mem_of_getElem? (i := 0) rfl))
  have N102 := Fr.snoc X102 N101 gb
  refine ⟨_, _, _, X102, e102, N102, KK102, V_b_102, fun target k => ?_⟩
  show Steps p.tables e below (T0.setTop (mkF m 119 #[.val (.int p1), .val (.int p2), .val (.int 2), .val (.int x3), .val (.int x4), .val (.ref b), .unset] [])) _
  refine XS.aload X0.here hx rfl (hb hby at_119) rfl rfl ?_
  refine XS.iloadN X0.here hx rfl (hb hby at_121) rfl ?_
  refine XS.bipush X0.here hx rfl (hb hby at_122) ?_
  show Steps p.tables e below (T0.setTop (mkF m 124 #[.val (.int p1), .val (.int p2), .val (.int 2), .val (.int x3), .val (.int x4), .val (.ref b), .unset] [(.int 46), (.int 2), (.ref b)])) _
  refine st101 _ ?_
  show Steps p.tables e below (T101.setTop (mkF m 125 #[.val (.int p1), .val (.int p2), .val (.int 2), .val (.int x3), .val (.int x4), .val (.ref b), .unset] [])) _
  refine XS.iloadN X101.here hx rfl (hb hby at_125) rfl ?_
  refine XS.ifYes X101.here hx rfl (pc0 := 126) (pc' := 142) rfl (hb hby at_126) rfl ((if0 _ _).trans (teq k3).1) (by decide) (by decide) ?_
  refine XS.iload X101.here hx rfl (hb hby at_142) rfl ?_
  show Steps p.tables e below (T101.setTop (mkF m 144 #[.val (.int p1), .val (.int p2), .val (.int 2), .val (.int x3), .val (.int x4), .val (.ref b), .unset] [(.int x4)])) _
  refine XS.ifNo X101.here hx rfl (hb hby at_144) rfl ((if0 _ _).trans (feq k4).1) ?_
  refine XS.iloadN X101.here hx rfl (hb hby at_147) rfl ?_
  refine XS.iconst X101.here hx rfl (hb hby at_148) ?_
  show Steps p.tables e below (T101.setTop (mkF m 149 #[.val (.int p1), .val (.int p2), .val (.int 2), .val (.int x3), .val (.int x4), .val (.ref b), .unset] [(.int 2), (.int 2)])) _
  refine XS.icmpNo X101.here hx rfl (hb hby at_149) rfl (flt (by decide : ¬ ((2 : Int32) < (2 : Int32)))).2.2.1 ?_
  refine XS.aload X101.here hx rfl (hb hby at_152) rfl rfl ?_
  refine XS.iloadN X101.here hx rfl (hb hby at_154) rfl ?_
  show Steps p.tables e below (T101.setTop (mkF m 155 #[.val (.int p1), .val (.int p2), .val (.int 2), .val (.int x3), .val (.int x4), .val (.ref b), .unset] [(.int 2), (.ref b)])) _
  refine XS.iconst X101.here hx rfl (hb hby at_155) ?_
  show Steps p.tables e below (T101.setTop (mkF m 156 #[.val (.int p1), .val (.int p2), .val (.int 2), .val (.int x3), .val (.int x4), .val (.ref b), .unset] [(.int 4), (.int 2), (.ref b)])) _
  refine XS.iadd X101.here hx rfl (hb hby at_156) rfl ?_
  rw [show ((2 : Int32) + (4 : Int32)) = (6 : Int32) from by decide]
  show Steps p.tables e below (T101.setTop (mkF m 157 #[.val (.int p1), .val (.int p2), .val (.int 2), .val (.int x3), .val (.int x4), .val (.ref b), .unset] [(.int 6), (.ref b)])) _
  refine XS.bipush X101.here hx rfl (hb hby at_157) ?_
  show Steps p.tables e below (T101.setTop (mkF m 159 #[.val (.int p1), .val (.int p2), .val (.int 2), .val (.int x3), .val (.int x4), .val (.ref b), .unset] [(.int 46), (.int 6), (.ref b)])) _
  refine st102 _ ?_
  exact k
set_option maxRecDepth 65536 in
set_option maxHeartbeats 40000000 in
theorem sg2_210 (l : Launch) (Z : State) (a0 : Array Value) (hw : ∀ d ∈ tables_1, d.before a0 Z = true) (p1 p2 x3 x4 : Int32) (b : Addr) (kb : ClassId) (d0 d1 d2 d3 d4 d5 d6 d7 : Int32) {p : Program} {e : Env} {s : State} {m : MethodId} {args : Array Value} {below : List Frame} {meth : Method} {c : Code} {T0 : State} {L0 : List Loc} (h0 : Heap) (n0 : Nat) (O0 : Old Z n0 h0) (hx : p.tables.exec = Jvm.exec) (hby : c.code = code) (hml : c.maxLocals = 7) (hown : s.vm.findClass "io/roadcrew/resolve/VersionReaderMajorPinLaw" = some m.cls) (hZ : Z.Warmed39 s.vm) (X0 : Stand p l e room_1 s m args below meth c T0 L0 1 8) (e0 : T0.heap = h0) (N0 : Fr n0 L0) (K : Arv Z h0 b kb .char (8 : Int32) [(.int d0), (.int d1), (.int d2), (.int d3), (.int d4), (.int d5), (.int d6), (.int d7)] (.int (0 : Int32))) (gb : n0 ≤ b) (k3 : ¬ (x3 = (0 : Int32))) (k4 : x4 = (0 : Int32)) :
    ∃ (T' : State) (h' : Heap) (L' : List Loc), Stand p l e room_1 s m args below meth c T' L' 1 8 ∧ T'.heap = h' ∧ Fr n0 L' ∧ Keep h0 h' [b] ∧ Arv Z h' b kb .char (8 : Int32) [(.int d0), (.int d1), (.int (46 : Int32)), (.int d3), (.int (46 : Int32)), (.int d5), (.int d6), (.int d7)] (.int (0 : Int32)) ∧ (∀ target, Steps p.tables e below (T'.setTop (mkF m 160 #[.val (.int p1), .val (.int p2), .val (.int 2), .val (.int x3), .val (.int x4), .val (.ref b), .unset] [])) target → Steps p.tables e below (T0.setTop (mkF m 119 #[.val (.int p1), .val (.int p2), .val (.int 2), .val (.int x3), .val (.int x4), .val (.ref b), .unset] [])) target) := by
  obtain ⟨cl_b_7, Ar_b_7, q_b_7, S_b_7, N_b_7, H_b_7, G_b_7⟩ := id (K)
  have hinb_7 : ¬ ((2 : Int32) < 0 ∨ cl_b_7.slots.size ≤ ((2 : Int32)).toNatClampNeg) := inb_of S_b_7 ⟨by decide, by decide⟩
  obtain ⟨T101, h101, X101, e101, W101, st101⟩ := stC X0 hx hZ e0 Ar_b_7 (j := (2 : Int32)) hinb_7 (g := (mkF m 124 #[.val (.int p1), .val (.int p2), .val (.int 2), .val (.int x3), .val (.int x4), .val (.ref b), .unset] [(.int 46), (.int 2), (.ref b)])) rfl rfl (hb hby at_124)
  have V_b_101 : Arv Z h101 b kb .char (8 : Int32) [(.int d0), (.int d1), (.int 46), (.int d3), (.int d4), (.int d5), (.int d6), (.int d7)] (.int 0) := Arv.set Ar_b_7 q_b_7 S_b_7 N_b_7 H_b_7 G_b_7 (fits_nar_char _) W101 2 rfl (Nat.le_of_ble_eq_true rfl)
  have O101 := O0.wr W101 gb
  have KK101 : Keep h0 h101 [b] := (Keep.refl h0 [b]).wr W101 (Or.inl (List.mem_of_getElem? (i := 0) rfl))
  have N101 := Fr.snoc X101 N0 gb
  obtain ⟨cl_b_30, Ar_b_30, q_b_30, S_b_30, N_b_30, H_b_30, G_b_30⟩ := id (V_b_101)
  have hinb_30 : ¬ ((4 : Int32) < 0 ∨ cl_b_30.slots.size ≤ ((4 : Int32)).toNatClampNeg) := inb_of S_b_30 ⟨by decide, by decide⟩
  obtain ⟨T102, h102, X102, e102, W102, st102⟩ := stC X101 hx hZ e101 Ar_b_30 (j := (4 : Int32)) hinb_30 (g := (mkF m 141 #[.val (.int p1), .val (.int p2), .val (.int 2), .val (.int x3), .val (.int x4), .val (.ref b), .unset] [(.int 46), (.int 4), (.ref b)])) rfl rfl (hb hby at_141)
  have V_b_102 : Arv Z h102 b kb .char (8 : Int32) [(.int d0), (.int d1), (.int 46), (.int d3), (.int 46), (.int d5), (.int d6), (.int d7)] (.int 0) := Arv.set Ar_b_30 q_b_30 S_b_30 N_b_30 H_b_30 G_b_30 (fits_nar_char _) W102 4 rfl (Nat.le_of_ble_eq_true rfl)
  have O102 := O101.wr W102 gb
  have KK102 : Keep h0 h102 [b] := KK101.wr W102 (Or.inl (List.mem_of_getElem? (i := 0) rfl))
  have N102 := Fr.snoc X102 N101 gb
  refine ⟨_, _, _, X102, e102, N102, KK102, V_b_102, fun target k => ?_⟩
  show Steps p.tables e below (T0.setTop (mkF m 119 #[.val (.int p1), .val (.int p2), .val (.int 2), .val (.int x3), .val (.int x4), .val (.ref b), .unset] [])) _
  refine XS.aload X0.here hx rfl (hb hby at_119) rfl rfl ?_
  refine XS.iloadN X0.here hx rfl (hb hby at_121) rfl ?_
  refine XS.bipush X0.here hx rfl (hb hby at_122) ?_
  show Steps p.tables e below (T0.setTop (mkF m 124 #[.val (.int p1), .val (.int p2), .val (.int 2), .val (.int x3), .val (.int x4), .val (.ref b), .unset] [(.int 46), (.int 2), (.ref b)])) _
  refine st101 _ ?_
  show Steps p.tables e below (T101.setTop (mkF m 125 #[.val (.int p1), .val (.int p2), .val (.int 2), .val (.int x3), .val (.int x4), .val (.ref b), .unset] [])) _
  refine XS.iloadN X101.here hx rfl (hb hby at_125) rfl ?_
  refine XS.ifNo X101.here hx rfl (hb hby at_126) rfl ((if0 _ _).trans (feq k3).1) ?_
  refine XS.iloadN X101.here hx rfl (hb hby at_129) rfl ?_
  show Steps p.tables e below (T101.setTop (mkF m 130 #[.val (.int p1), .val (.int p2), .val (.int 2), .val (.int x3), .val (.int x4), .val (.ref b), .unset] [(.int 2)])) _
  refine XS.iconst X101.here hx rfl (hb hby at_130) ?_
  refine XS.icmpNo X101.here hx rfl (hb hby at_131) rfl (flt (by decide : ¬ ((4 : Int32) < (2 : Int32)))).2.2.1 ?_
  refine XS.aload X101.here hx rfl (hb hby at_134) rfl rfl ?_
  show Steps p.tables e below (T101.setTop (mkF m 136 #[.val (.int p1), .val (.int p2), .val (.int 2), .val (.int x3), .val (.int x4), .val (.ref b), .unset] [(.ref b)])) _
  refine XS.iloadN X101.here hx rfl (hb hby at_136) rfl ?_
  refine XS.iconst X101.here hx rfl (hb hby at_137) ?_
  show Steps p.tables e below (T101.setTop (mkF m 138 #[.val (.int p1), .val (.int p2), .val (.int 2), .val (.int x3), .val (.int x4), .val (.ref b), .unset] [(.int 2), (.int 2), (.ref b)])) _
  refine XS.iadd X101.here hx rfl (hb hby at_138) rfl ?_
  rw [show ((2 : Int32) + (2 : Int32)) = (4 : Int32) from by decide]
  show Steps p.tables e below (T101.setTop (mkF m 139 #[.val (.int p1), .val (.int p2), .val (.int 2), .val (.int x3), .val (.int x4), .val (.ref b), .unset] [(.int 4), (.ref b)])) _
  refine XS.bipush X101.here hx rfl (hb hby at_139) ?_
  show Steps p.tables e below (T101.setTop (mkF m 141 #[.val (.int p1), .val (.int p2), .val (.int 2), .val (.int x3), .val (.int x4), .val (.ref b), .unset] [(.int 46), (.int 4), (.ref b)])) _
  refine st102 _ ?_
  show Steps p.tables e below (T102.setTop (mkF m 142 #[.val (.int p1), .val (.int p2), .val (.int 2), .val (.int x3), .val (.int x4), .val (.ref b), .unset] [])) _
  refine XS.iload X102.here hx rfl (hb hby at_142) rfl ?_
  refine XS.ifYes X102.here hx rfl (pc0 := 144) (pc' := 160) rfl (hb hby at_144) rfl ((if0 _ _).trans (teq k4).1) (by decide) (by decide) ?_
  exact k
set_option maxRecDepth 65536 in
set_option maxHeartbeats 40000000 in
theorem sg2_211 (l : Launch) (Z : State) (a0 : Array Value) (hw : ∀ d ∈ tables_1, d.before a0 Z = true) (p1 p2 x3 x4 : Int32) (b : Addr) (kb : ClassId) (d0 d1 d2 d3 d4 d5 d6 d7 : Int32) {p : Program} {e : Env} {s : State} {m : MethodId} {args : Array Value} {below : List Frame} {meth : Method} {c : Code} {T0 : State} {L0 : List Loc} (h0 : Heap) (n0 : Nat) (O0 : Old Z n0 h0) (hx : p.tables.exec = Jvm.exec) (hby : c.code = code) (hml : c.maxLocals = 7) (hown : s.vm.findClass "io/roadcrew/resolve/VersionReaderMajorPinLaw" = some m.cls) (hZ : Z.Warmed39 s.vm) (X0 : Stand p l e room_1 s m args below meth c T0 L0 1 8) (e0 : T0.heap = h0) (N0 : Fr n0 L0) (K : Arv Z h0 b kb .char (8 : Int32) [(.int d0), (.int d1), (.int d2), (.int d3), (.int d4), (.int d5), (.int d6), (.int d7)] (.int (0 : Int32))) (gb : n0 ≤ b) (k3 : ¬ (x3 = (0 : Int32))) (k4 : ¬ (x4 = (0 : Int32))) :
    ∃ (T' : State) (h' : Heap) (L' : List Loc), Stand p l e room_1 s m args below meth c T' L' 1 8 ∧ T'.heap = h' ∧ Fr n0 L' ∧ Keep h0 h' [b] ∧ Arv Z h' b kb .char (8 : Int32) [(.int d0), (.int d1), (.int (46 : Int32)), (.int d3), (.int (46 : Int32)), (.int d5), (.int (46 : Int32)), (.int d7)] (.int (0 : Int32)) ∧ (∀ target, Steps p.tables e below (T'.setTop (mkF m 160 #[.val (.int p1), .val (.int p2), .val (.int 2), .val (.int x3), .val (.int x4), .val (.ref b), .unset] [])) target → Steps p.tables e below (T0.setTop (mkF m 119 #[.val (.int p1), .val (.int p2), .val (.int 2), .val (.int x3), .val (.int x4), .val (.ref b), .unset] [])) target) := by
  obtain ⟨cl_b_7, Ar_b_7, q_b_7, S_b_7, N_b_7, H_b_7, G_b_7⟩ := id (K)
  have hinb_7 : ¬ ((2 : Int32) < 0 ∨ cl_b_7.slots.size ≤ ((2 : Int32)).toNatClampNeg) := inb_of S_b_7 ⟨by decide, by decide⟩
  obtain ⟨T101, h101, X101, e101, W101, st101⟩ := stC X0 hx hZ e0 Ar_b_7 (j := (2 : Int32)) hinb_7 (g := (mkF m 124 #[.val (.int p1), .val (.int p2), .val (.int 2), .val (.int x3), .val (.int x4), .val (.ref b), .unset] [(.int 46), (.int 2), (.ref b)])) rfl rfl (hb hby at_124)
  have V_b_101 : Arv Z h101 b kb .char (8 : Int32) [(.int d0), (.int d1), (.int 46), (.int d3), (.int d4), (.int d5), (.int d6), (.int d7)] (.int 0) := Arv.set Ar_b_7 q_b_7 S_b_7 N_b_7 H_b_7 G_b_7 (fits_nar_char _) W101 2 rfl (Nat.le_of_ble_eq_true rfl)
  have O101 := O0.wr W101 gb
  have KK101 : Keep h0 h101 [b] := (Keep.refl h0 [b]).wr W101 (Or.inl (List.mem_of_getElem? (i := 0) rfl))
  have N101 := Fr.snoc X101 N0 gb
  obtain ⟨cl_b_30, Ar_b_30, q_b_30, S_b_30, N_b_30, H_b_30, G_b_30⟩ := id (V_b_101)
  have hinb_30 : ¬ ((4 : Int32) < 0 ∨ cl_b_30.slots.size ≤ ((4 : Int32)).toNatClampNeg) := inb_of S_b_30 ⟨by decide, by decide⟩
  obtain ⟨T102, h102, X102, e102, W102, st102⟩ := stC X101 hx hZ e101 Ar_b_30 (j := (4 : Int32)) hinb_30 (g := (mkF m 141 #[.val (.int p1), .val (.int p2), .val (.int 2), .val (.int x3), .val (.int x4), .val (.ref b), .unset] [(.int 46), (.int 4), (.ref b)])) rfl rfl (hb hby at_141)
  have V_b_102 : Arv Z h102 b kb .char (8 : Int32) [(.int d0), (.int d1), (.int 46), (.int d3), (.int 46), (.int d5), (.int d6), (.int d7)] (.int 0) := Arv.set Ar_b_30 q_b_30 S_b_30 N_b_30 H_b_30 G_b_30 (fits_nar_char _) W102 4 rfl (Nat.le_of_ble_eq_true rfl)
  have O102 := O101.wr W102 gb
  have KK102 : Keep h0 h102 [b] := KK101.wr W102 (Or.inl (List.mem_of_getElem? (i := 0) rfl))
  have N102 := Fr.snoc X102 N101 gb
  obtain ⟨cl_b_53, Ar_b_53, q_b_53, S_b_53, N_b_53, H_b_53, G_b_53⟩ := id (V_b_102)
  have hinb_53 : ¬ ((6 : Int32) < 0 ∨ cl_b_53.slots.size ≤ ((6 : Int32)).toNatClampNeg) := inb_of S_b_53 ⟨by decide, by decide⟩
  obtain ⟨T103, h103, X103, e103, W103, st103⟩ := stC X102 hx hZ e102 Ar_b_53 (j := (6 : Int32)) hinb_53 (g := (mkF m 159 #[.val (.int p1), .val (.int p2), .val (.int 2), .val (.int x3), .val (.int x4), .val (.ref b), .unset] [(.int 46), (.int 6), (.ref b)])) rfl rfl (hb hby at_159)
  have V_b_103 : Arv Z h103 b kb .char (8 : Int32) [(.int d0), (.int d1), (.int 46), (.int d3), (.int 46), (.int d5), (.int 46), (.int d7)] (.int 0) := Arv.set Ar_b_53 q_b_53 S_b_53 N_b_53 H_b_53 G_b_53 (fits_nar_char _) W103 6 rfl (Nat.le_of_ble_eq_true rfl)
  have O103 := O102.wr W103 gb
  have KK103 : Keep h0 h103 [b] := KK102.wr W103 (Or.inl (List.mem_of_getElem? (i := 0) rfl))
  have N103 := Fr.snoc X103 N102 gb
  refine ⟨_, _, _, X103, e103, N103, KK103, V_b_103, fun target k => ?_⟩
  show Steps p.tables e below (T0.setTop (mkF m 119 #[.val (.int p1), .val (.int p2), .val (.int 2), .val (.int x3), .val (.int x4), .val (.ref b), .unset] [])) _
  refine XS.aload X0.here hx rfl (hb hby at_119) rfl rfl ?_
  refine XS.iloadN X0.here hx rfl (hb hby at_121) rfl ?_
  refine XS.bipush X0.here hx rfl (hb hby at_122) ?_
  show Steps p.tables e below (T0.setTop (mkF m 124 #[.val (.int p1), .val (.int p2), .val (.int 2), .val (.int x3), .val (.int x4), .val (.ref b), .unset] [(.int 46), (.int 2), (.ref b)])) _
  refine st101 _ ?_
  show Steps p.tables e below (T101.setTop (mkF m 125 #[.val (.int p1), .val (.int p2), .val (.int 2), .val (.int x3), .val (.int x4), .val (.ref b), .unset] [])) _
  refine XS.iloadN X101.here hx rfl (hb hby at_125) rfl ?_
  refine XS.ifNo X101.here hx rfl (hb hby at_126) rfl ((if0 _ _).trans (feq k3).1) ?_
  refine XS.iloadN X101.here hx rfl (hb hby at_129) rfl ?_
  show Steps p.tables e below (T101.setTop (mkF m 130 #[.val (.int p1), .val (.int p2), .val (.int 2), .val (.int x3), .val (.int x4), .val (.ref b), .unset] [(.int 2)])) _
  refine XS.iconst X101.here hx rfl (hb hby at_130) ?_
  refine XS.icmpNo X101.here hx rfl (hb hby at_131) rfl (flt (by decide : ¬ ((4 : Int32) < (2 : Int32)))).2.2.1 ?_
  refine XS.aload X101.here hx rfl (hb hby at_134) rfl rfl ?_
  show Steps p.tables e below (T101.setTop (mkF m 136 #[.val (.int p1), .val (.int p2), .val (.int 2), .val (.int x3), .val (.int x4), .val (.ref b), .unset] [(.ref b)])) _
  refine XS.iloadN X101.here hx rfl (hb hby at_136) rfl ?_
  refine XS.iconst X101.here hx rfl (hb hby at_137) ?_
  show Steps p.tables e below (T101.setTop (mkF m 138 #[.val (.int p1), .val (.int p2), .val (.int 2), .val (.int x3), .val (.int x4), .val (.ref b), .unset] [(.int 2), (.int 2), (.ref b)])) _
  refine XS.iadd X101.here hx rfl (hb hby at_138) rfl ?_
  rw [show ((2 : Int32) + (2 : Int32)) = (4 : Int32) from by decide]
  show Steps p.tables e below (T101.setTop (mkF m 139 #[.val (.int p1), .val (.int p2), .val (.int 2), .val (.int x3), .val (.int x4), .val (.ref b), .unset] [(.int 4), (.ref b)])) _
  refine XS.bipush X101.here hx rfl (hb hby at_139) ?_
  show Steps p.tables e below (T101.setTop (mkF m 141 #[.val (.int p1), .val (.int p2), .val (.int 2), .val (.int x3), .val (.int x4), .val (.ref b), .unset] [(.int 46), (.int 4), (.ref b)])) _
  refine st102 _ ?_
  show Steps p.tables e below (T102.setTop (mkF m 142 #[.val (.int p1), .val (.int p2), .val (.int 2), .val (.int x3), .val (.int x4), .val (.ref b), .unset] [])) _
  refine XS.iload X102.here hx rfl (hb hby at_142) rfl ?_
  refine XS.ifNo X102.here hx rfl (hb hby at_144) rfl ((if0 _ _).trans (feq k4).1) ?_
  refine XS.iloadN X102.here hx rfl (hb hby at_147) rfl ?_
  show Steps p.tables e below (T102.setTop (mkF m 148 #[.val (.int p1), .val (.int p2), .val (.int 2), .val (.int x3), .val (.int x4), .val (.ref b), .unset] [(.int 2)])) _
  refine XS.iconst X102.here hx rfl (hb hby at_148) ?_
  refine XS.icmpNo X102.here hx rfl (hb hby at_149) rfl (flt (by decide : ¬ ((2 : Int32) < (2 : Int32)))).2.2.1 ?_
  refine XS.aload X102.here hx rfl (hb hby at_152) rfl rfl ?_
  show Steps p.tables e below (T102.setTop (mkF m 154 #[.val (.int p1), .val (.int p2), .val (.int 2), .val (.int x3), .val (.int x4), .val (.ref b), .unset] [(.ref b)])) _
  refine XS.iloadN X102.here hx rfl (hb hby at_154) rfl ?_
  refine XS.iconst X102.here hx rfl (hb hby at_155) ?_
  show Steps p.tables e below (T102.setTop (mkF m 156 #[.val (.int p1), .val (.int p2), .val (.int 2), .val (.int x3), .val (.int x4), .val (.ref b), .unset] [(.int 4), (.int 2), (.ref b)])) _
  refine XS.iadd X102.here hx rfl (hb hby at_156) rfl ?_
  rw [show ((2 : Int32) + (4 : Int32)) = (6 : Int32) from by decide]
  show Steps p.tables e below (T102.setTop (mkF m 157 #[.val (.int p1), .val (.int p2), .val (.int 2), .val (.int x3), .val (.int x4), .val (.ref b), .unset] [(.int 6), (.ref b)])) _
  refine XS.bipush X102.here hx rfl (hb hby at_157) ?_
  show Steps p.tables e below (T102.setTop (mkF m 159 #[.val (.int p1), .val (.int p2), .val (.int 2), .val (.int x3), .val (.int x4), .val (.ref b), .unset] [(.int 46), (.int 6), (.ref b)])) _
  refine st103 _ ?_
  exact k
theorem sg2_2 (l : Launch) (Z : State) (a0 : Array Value) (hw : ∀ d ∈ tables_1, d.before a0 Z = true) (p1 p2 x3 x4 f2 f4 : Int32) (b : Addr) (kb : ClassId) (d0 d1 d2 d3 d4 d5 d6 d7 : Int32) {p : Program} {e : Env} {s : State} {m : MethodId} {args : Array Value} {below : List Frame} {meth : Method} {c : Code} {T0 : State} {L0 : List Loc} (h0 : Heap) (n0 : Nat) (O0 : Old Z n0 h0) (hx : p.tables.exec = Jvm.exec) (hby : c.code = code) (hml : c.maxLocals = 7) (hown : s.vm.findClass "io/roadcrew/resolve/VersionReaderMajorPinLaw" = some m.cls) (hZ : Z.Warmed39 s.vm) (X0 : Stand p l e room_1 s m args below meth c T0 L0 1 8) (e0 : T0.heap = h0) (N0 : Fr n0 L0) (K : Arv Z h0 b kb .char (8 : Int32) [(.int d0), (.int d1), (.int d2), (.int d3), (.int d4), (.int d5), (.int d6), (.int d7)] (.int (0 : Int32))) (gb : n0 ≤ b) (hf2 : f2 = if x3 = (0 : Int32) then d4 else (46 : Int32)) (hf4 : f4 = if x4 = (0 : Int32) then d6 else (46 : Int32)) :
    ∃ (T' : State) (h' : Heap) (L' : List Loc), Stand p l e room_1 s m args below meth c T' L' 1 8 ∧ T'.heap = h' ∧ Fr n0 L' ∧ Keep h0 h' [b] ∧ Arv Z h' b kb .char (8 : Int32) [(.int d0), (.int d1), (.int (46 : Int32)), (.int d3), (.int f2), (.int d5), (.int f4), (.int d7)] (.int (0 : Int32)) ∧ (∀ target, Steps p.tables e below (T'.setTop (mkF m 160 #[.val (.int p1), .val (.int p2), .val (.int 2), .val (.int x3), .val (.int x4), .val (.ref b), .unset] [])) target → Steps p.tables e below (T0.setTop (mkF m 119 #[.val (.int p1), .val (.int p2), .val (.int 2), .val (.int x3), .val (.int x4), .val (.ref b), .unset] [])) target) := by
  by_cases k3 : x3 = (0 : Int32)
  · rw [if_pos k3] at hf2; rw [hf2]
    by_cases k4 : x4 = (0 : Int32)
    · rw [if_pos k4] at hf4; rw [hf4]; exact sg2_200 l Z a0 hw p1 p2 x3 x4 b kb d0 d1 d2 d3 d4 d5 d6 d7 h0 n0 O0 hx hby hml hown hZ X0 e0 N0 K gb k3 k4
    · rw [if_neg k4] at hf4; rw [hf4]; exact sg2_201 l Z a0 hw p1 p2 x3 x4 b kb d0 d1 d2 d3 d4 d5 d6 d7 h0 n0 O0 hx hby hml hown hZ X0 e0 N0 K gb k3 k4
  · rw [if_neg k3] at hf2; rw [hf2]
    by_cases k4 : x4 = (0 : Int32)
    · rw [if_pos k4] at hf4; rw [hf4]; exact sg2_210 l Z a0 hw p1 p2 x3 x4 b kb d0 d1 d2 d3 d4 d5 d6 d7 h0 n0 O0 hx hby hml hown hZ X0 e0 N0 K gb k3 k4
    · rw [if_neg k4] at hf4; rw [hf4]; exact sg2_211 l Z a0 hw p1 p2 x3 x4 b kb d0 d1 d2 d3 d4 d5 d6 d7 h0 n0 O0 hx hby hml hown hZ X0 e0 N0 K gb k3 k4
set_option maxRecDepth 65536 in
set_option maxHeartbeats 40000000 in
theorem rm0_2 (l : Launch) (Z : State) (a0 : Array Value) (hw : ∀ d ∈ tables_1, d.before a0 Z = true) (ws : List Jvm.Cond) (p1 p2 : Int32) (G1 : Int32) (G3 : Value) (x3 x4 f2 f4 : Int32) (d0 d1 d2 d3 d4 d5 d6 d7 : Int32) (h0 : Heap) (n0 : Nat) (O0 : Old Z n0 h0) (S_CS : Sta Z Z.heap "java/lang/String" "COMPACT_STRINGS" "Z" (.int G1)) (hG1 : ¬ (G1 = (0 : Int32))) (S_SF : Sta Z Z.heap "jdk/internal/util/Preconditions" "SIOOBE_FORMATTER" "Ljava/util/function/BiFunction;" G3) (rG3 : G3.isRef = true) (hd0 : d0 = dig p1 (0 : Int32)) (hd1 : d1 = dig p1 (1 : Int32)) (hd2 : d2 = dig p1 (2 : Int32)) (hd3 : d3 = dig p1 (3 : Int32)) (hd4 : d4 = dig p1 (4 : Int32)) (hd5 : d5 = dig p1 (5 : Int32)) (hd6 : d6 = dig p1 (6 : Int32)) (hd7 : d7 = dig p1 (7 : Int32)) (h3 : x3 = if (p2 &&& (8 : Int32)) = (0 : Int32) then (0 : Int32) else (1 : Int32)) (h4 : x4 = if (p2 &&& (16 : Int32)) = (0 : Int32) then (0 : Int32) else (1 : Int32)) (hf2 : f2 = if x3 = (0 : Int32) then d4 else (46 : Int32)) (hf4 : f4 = if x4 = (0 : Int32) then d6 else (46 : Int32)) (hg2 : ¬ f2 < 0 ∧ ¬ (255 : Int32) < f2) (hg4 : ¬ f4 < 0 ∧ ¬ (255 : Int32) < f4) (hm : ((irm (p2 &&& (7 : Int32)) (6 : Int32)) + (1 : Int32)) = (2 : Int32)) :
    MetFree l x (head1 (Jvm.Cond.code x code maxLocals ret :: ws) room_1) (fun a_ U => a_ = #[(.int p1), (.int p2)] ∧ Z.Warmed39 U.vm ∧ U.heap = h0) (fun _ _ _ _ _ => True) (fun _ U o U' => ∃ v L, o = .returned v ∧ Q0 h0 n0 v U'.heap L ∧ FrameEnd U o U' L room_1.cells room_1.slots) := by
  refine MetFree.of_bodySF (plainFor_of_name pn_0) hisR ?_
  intro p e s m args below meth c s₁ Bd hml0 hP hK
  obtain ⟨rfl, hZ, hh⟩ := hP
  have hx := Bd.exec
  have hby := Bd.bytes
  have hml : c.maxLocals = 7 := hml0
  have hown : s.vm.findClass "io/roadcrew/resolve/VersionReaderMajorPinLaw" = some m.cls := findClass_of_methodNamed Bd.named
  have hnm := (name_of_methodNamed Bd.named Bd.method).1
  have X0 : Stand p l e room_1 s m #[(.int p1), (.int p2)] below meth c s₁ [] 0 0 := Stand.of_body Bd
  have e0 : s₁.heap = h0 := by rw [← hh, Bd.state]; rfl
  have N0 := Fr.nil n0
  have pre0 : ∀ tg, Steps p.tables e below (s₁.setTop (mkF m 0 #[.val (.int p1), .val (.int p2), .unset, .unset, .unset, .unset, .unset] [])) tg → Steps p.tables e below (s₁.setTop (entryFrame m #[(.int p1), (.int p2)] maxLocals)) tg := fun tg kq => castTop (ef_II_7m m p1 p2) kq
  obtain ⟨T101, h101, L101, b101, kb101, X101, e101, Ns101, K101, szb101, Vb101, st101⟩ := sg1 l Z a0 hw p1 p2 (2 : Int32) x3 x4 d0 d1 d2 d3 d4 d5 d6 d7 h0 n0 O0 hx hby hml hown hZ X0 e0 N0 hd0 hd1 hd2 hd3 hd4 hd5 hd6 hd7
  have g_b101 : n0 ≤ b101 := Nat.le_trans (O0.1 ▸ O0.2.1) szb101
  have sz_b101 : h0.size ≤ b101 := Nat.le_trans (Nat.le_refl _) szb101
  have O101 := O0.keep K101 all0
  have KK101 : Keep h0 h101 [] := (Keep.refl h0 []).trans K101 all0
  obtain ⟨T102, h102, L102, X102, e102, Ns102, K102, Vc102, st102⟩ := sg2_2 l Z a0 hw p1 p2 x3 x4 f2 f4 b101 kb101 d0 d1 d2 d3 d4 d5 d6 d7 h101 n0 O101 hx hby hml hown hZ X101 e101 Ns101 Vb101 g_b101 hf2 hf4
  have O102 := O101.keep K102 (allS g_b101 all0)
  have KK102 : Keep h0 h102 [] := KK101.trans K102 (allS (Or.inr sz_b101) all0)
  obtain ⟨T103, h103, X103, e103, E103, A103, D103, -, st103⟩ := newO X102 hx hZ hown (wi hw 5 rfl) (wi hw 6 rfl) (wi hw 7 rfl) e102 (g := (mkF m 160 #[.val (.int p1), .val (.int p2), .val (.int 2), .val (.int x3), .val (.int x4), .val (.ref b101), .unset] [])) rfl (hb hby at_160) (by decide) (by decide)
  obtain ⟨b103, g103⟩ : ∃ z, z = h102.size := ⟨_, rfl⟩
  rw [← g103] at A103 D103 st103
  have g_b103 : n0 ≤ b103 := Nat.le_trans (O102.1 ▸ O102.2.1) (Nat.le_of_eq g103.symm)
  have sz_b103 : h0.size ≤ b103 := Nat.le_trans KK102.1 (Nat.le_of_eq g103.symm)
  have O103 := O102.ext E103
  have KK103 : Keep h0 h103 [] := KK102.ext E103
  have F_coder_b103 : Fld Z h103 b103 "java/lang/String" "coder" "B" (.int 0) := D103 (Or.inr (wi hw 31 rfl)) (ty := .byte) (by decide)
  have F_value_b103 : Fld Z h103 b103 "java/lang/String" "value" "[B" .null := D103 (Or.inr (wi hw 33 rfl)) (ty := (.array .byte)) (by decide)
  have fV_b101_3_104 := (Vc102.ext E103)
  have shp105 : ∀ c ∈ ([d0, d1, (46 : Int32), d3, f2, d5, f4, d7] : List Int32), ¬ c < 0 ∧ ¬ (255 : Int32) < c := (own_memS (own_dd hd0).1 (own_memS (own_dd hd1).1 (own_memS (by decide) (own_memS (own_dd hd3).1 (own_memS hg2 (own_memS (own_dd hd5).1 (own_memS hg4 (own_memS (own_dd hd7).1 own_mem0))))))))
  have sA105 : Arv Z h103 b101 kb101 .char (8 : Int32) (([d0, d1, (46 : Int32), d3, f2, d5, f4, d7] : List Int32).map Value.int) (.int (0 : Int32)) := fV_b101_3_104
  obtain ⟨_, _, ⟨T106, L106, k106, n106⟩, -, X106, ⟨Lc106, hQ106, l106, y106, z106⟩, st106⟩ := X103.specialBack hx (y := y2) rfl hown (mvT hZ (wi hw 8 rfl)) (mvT hZ (wi hw 9 rfl)) (mvT hZ (wi hw 10 rfl)) (by decide) (StrChars.Road.backV (W := 1) hZ (fun d hd => hw d (own_w_backV d hd)) (kI := 4) (wi hw 6 rfl) (cs := ([d0, d1, (46 : Int32), d3, f2, d5, f4, d7] : List Int32)) (bs := ([d0, d1, (46 : Int32), d3, f2, d5, f4, d7] : List Int32).map (fun c => c.toInt8.toInt32)) (n := 8) g_b103 (O103.1 ▸ O103.2.1) A103 F_value_b103 F_coder_b103 sA105 (S_CS.ext O103.2) hG1 rfl rfl (by decide) (by decide) shp105 rfl (by decide) (by decide)) (g := (mkF m 166 #[.val (.int p1), .val (.int p2), .val (.int 2), .val (.int x3), .val (.int x4), .val (.ref b101), .unset] [(.ref b101), (.ref b103), (.ref b103)])) rfl (by rw [hml]; rfl) (Steps.refl _) (a := b103) (argsL := [(.ref b101)]) (rest := [(.ref b103)]) (lenOf pd_15 rfl) rfl (by show 2 * 0 + _ ≤ _; exact Nat.le_of_eq rfl) (hb hby at_166) (fun _ _ => ⟨rfl, e103, (by decide : 2 + 1 ≤ _), (by decide : 12 + 8 ≤ _)⟩)
  dsimp only [Pt.U, Pt.locs, Pt.cells, Pt.slots] at X106 l106 y106 z106 st106 hQ106
  subst l106 y106 z106
  obtain ⟨rfl, N106q, K106, sE105, sC105, t105, kb105, sg105, ssz105, sne105, sV105, sK105⟩ := hQ106
  obtain ⟨h106, e106⟩ : ∃ z, T106.heap = z := ⟨_, rfl⟩
  rw [e106] at K106 sE105 sC105 sV105 sK105
  have g_t105 : n0 ≤ t105 := Nat.le_trans (O103.1 ▸ O103.2.1) ssz105
  have sz_t105 : h0.size ≤ t105 := Nat.le_trans KK103.1 ssz105
  have O106 := O103.keep K106 (allS g_b103 all0)
  have KK106 : Keep h0 h106 [] := KK103.trans K106 (allS (Or.inr sz_b103) all0)
  have N106 := Fr.app Ns102 N106q
  have scd105 : StrChars.Road.CodA ([d0, d1, (46 : Int32), d3, f2, d5, f4, d7] : List Int32) 0 (8 : Int32) ((([d0, d1, (46 : Int32), d3, f2, d5, f4, d7] : List Int32).map (fun c => c.toInt8.toInt32)).map Value.int) := StrChars.Road.codOf (n := 8) rfl (fun c hc => (shp105 c hc).2)
  obtain ⟨_, _, ⟨T108, L108, k108, n108⟩, -, X108, ⟨Lc108, hQ108, l108, y108, z108⟩, st108⟩ := Jvm.LawKit.callS X106 hx (y := y8) hown (mvT hZ (wi hw 34 rfl)) (mvT hZ (wi hw 35 rfl)) (mvT hZ (wi hw 36 rfl)) (mvT hZ (wi hw 37 rfl)) (by decide) (backOf (W := 0) (rmM l Z a0 hw [] G1 G3 b103 (2 : Int32) 2 ([d0, d1, (46 : Int32), d3, f2, d5, f4, d7] : List Int32) ([d0, d1] : List Int32) h106 n0 O106 S_CS hG1 S_SF rG3 ⟨_, _, _, _, sE105, sV105, sC105, sK105, scd105, shp105, (Nat.le_of_ble_eq_true rfl)⟩ rfl ⟨(StrChars.lo8 d0), (StrChars.lo8 d1), (StrChars.lo8 (46 : Int32)), (StrChars.lo8 d3), (StrChars.lo8 f2), (StrChars.lo8 d5), (StrChars.lo8 f4), (StrChars.lo8 d7), Or.inr (Or.inl ⟨rfl, rfl, (own_dd hd0).2, (own_dd hd1).2⟩)⟩ ⟨by decide, by decide, by decide, by decide, by decide, by decide, by decide, rfl⟩ rfl (own_memS (own_dd hd0).1 (own_memS (own_dd hd1).1 own_mem0)) (Nat.le_of_ble_eq_true rfl)) hZ (wi hw 37 rfl) (wi hw 36 rfl) (by decide) (by decide)) (g := (mkF m 169 #[.val (.int p1), .val (.int p2), .val (.int 2), .val (.int x3), .val (.int x4), .val (.ref b101), .unset] [(.ref b103)])) rfl (by rw [hml]; rfl) (argsL := [(.ref b103)]) (rest := []) (lenOf pd_16 rfl) rfl (by show 2 * 0 + _ ≤ _; exact Nat.le_of_eq rfl) (hb hby at_169) (fun _ _ => ⟨rfl, e106, (by decide : 3 + 2 ≤ _), (by decide : 20 + 12 ≤ _)⟩)
  dsimp only [Pt.U, Pt.locs, Pt.cells, Pt.slots] at X108 l108 y108 z108 st108 hQ108
  subst l108 y108 z108
  obtain ⟨xr, rfl, N108q, K108, szx108, T108q⟩ := hQ108
  obtain ⟨h108, e108⟩ : ∃ z, T108.heap = z := ⟨_, rfl⟩
  rw [e108] at K108 T108q
  obtain ⟨tr107, kbr107, Nr107, vsr107, sEr107, sVr107, sCr107, sKr107, scdr107, shpr107, shlr107⟩ := id T108q
  have g_xr : n0 ≤ xr := Nat.le_trans (O106.1 ▸ O106.2.1) szx108
  have sz_xr : h0.size ≤ xr := Nat.le_trans KK106.1 szx108
  have O108 := O106.keep K108 all0
  have KK108 : Keep h0 h108 [] := KK106.trans K108 all0
  have N108 := Fr.app N106 N108q
  obtain ⟨cq109, kq109, q109a, q109b, q109c⟩ := isOf hZ e108 sEr107
  obtain ⟨_, _, ⟨T109, L109, k109, n109⟩, -, X109, ⟨Lc109, hQ109, l109, y109, z109⟩, st109⟩ := X108.virtualBack hx (y := y12) (z := y12) hown (mvT hZ (wi hw 115 rfl)) (mvT hZ (wi hw 54 rfl)) (notFace_of_selects (args := #[]) (mvT hZ (wi hw 56 rfl))) (mvT hZ (wi hw 56 rfl)) (mvT hZ (wi hw 55 rfl)) (by decide) (StrChars.Road.lenW (W := 0) hZ (fun d hd => hw d (own_w_lenW d hd)) (kI := 4) (wi hw 6 rfl) sEr107 sVr107 sCr107 sKr107 scdr107 (own_up _ shpr107) (S_CS.ext O108.2) hG1 shlr107 (by decide) (by decide)) q109a q109c (g := (mkF m 176 #[.val (.int p1), .val (.int p2), .val (.int 2), .val (.int x3), .val (.int x4), .val (.ref b101), .val (.ref xr)] [(.ref xr)])) rfl (by rw [hml]; rfl) (Steps.refl _) (argsL := []) (rest := []) (lenOf pd_5 rfl) rfl (by show 2 * 0 + _ ≤ _; exact Nat.le_of_eq rfl) (hb hby at_176) (fun _ _ => ⟨rfl, e108, (by decide : 5 + 0 ≤ _), (by decide : 32 + 0 ≤ _)⟩)
  dsimp only [Pt.U, Pt.locs, Pt.cells, Pt.slots] at X109 l109 y109 z109 st109 hQ109
  subst l109 y109 z109
  obtain ⟨rfl, rfl, hh109⟩ := hQ109
  have N109q : Fr n0 ([] : List Loc) := Fr.nil n0
  have e109 : T109.heap = h108 := hh109
  have N109 := Fr.app N108 N109q
  obtain ⟨_, _, ⟨T110, L110, k110, n110⟩, -, X110, ⟨Lc110, hQ110, l110, y110, z110⟩, st110⟩ := Jvm.LawKit.callS X109 hx (y := y27) hown (mvT hZ (wi hw 116 rfl)) (mvT hZ (wi hw 117 rfl)) (mvT hZ (wi hw 3 rfl)) (mvT hZ (wi hw 118 rfl)) (by decide) (backOf (W := 0) (rmA_lt l Z a0 hw [] G1 G3 xr (0 : Int32) (2 : Int32) p1 0 ([d0, d1] : List Int32) h108 n0 O108 S_CS hG1 S_SF rG3 ⟨_, _, _, _, sEr107, sVr107, sCr107, sKr107, scdr107, shpr107, shlr107⟩ (by decide) (by decide) (Nat.le_of_ble_eq_true rfl) hd0) hZ (wi hw 118 rfl) (wi hw 3 rfl) (by decide) (by decide)) (g := (mkF m 188 #[.val (.int p1), .val (.int p2), .val (.int 2), .val (.int x3), .val (.int x4), .val (.ref b101), .val (.ref xr)] [(.int p1), (.int 2), (.int 0), (.ref xr)])) rfl (by rw [hml]; rfl) (argsL := [(.ref xr), (.int 0), (.int 2), (.int p1)]) (rest := []) (lenOf pd_17 rfl) rfl (by show 2 * 0 + _ ≤ _; exact Nat.le_of_eq rfl) (hb hby at_188) (fun _ _ => ⟨rfl, e109, (by decide : 5 + 0 ≤ _), (by decide : 32 + 0 ≤ _)⟩)
  dsimp only [Pt.U, Pt.locs, Pt.cells, Pt.slots] at X110 l110 y110 z110 st110 hQ110
  subst l110 y110 z110
  obtain ⟨rfl, N110q, hh110⟩ := hQ110
  have e110 : T110.heap = h108 := hh110
  have N110 := Fr.app N109 N110q
  obtain ⟨_, _, ⟨T111, L111, k111, n111⟩, -, X111, ⟨Lc111, hQ111, l111, y111, z111⟩, st111⟩ := Jvm.LawKit.callS X110 hx (y := y27) hown (mvT hZ (wi hw 116 rfl)) (mvT hZ (wi hw 117 rfl)) (mvT hZ (wi hw 3 rfl)) (mvT hZ (wi hw 118 rfl)) (by decide) (backOf (W := 0) (rmA_lt l Z a0 hw [] G1 G3 xr (1 : Int32) (2 : Int32) p1 1 ([d0, d1] : List Int32) h108 n0 O108 S_CS hG1 S_SF rG3 ⟨_, _, _, _, sEr107, sVr107, sCr107, sKr107, scdr107, shpr107, shlr107⟩ (by decide) (by decide) (Nat.le_of_ble_eq_true rfl) hd1) hZ (wi hw 118 rfl) (wi hw 3 rfl) (by decide) (by decide)) (g := (mkF m 199 #[.val (.int p1), .val (.int p2), .val (.int 2), .val (.int x3), .val (.int x4), .val (.ref b101), .val (.ref xr)] [(.int p1), (.int 2), (.int 1), (.ref xr)])) rfl (by rw [hml]; rfl) (argsL := [(.ref xr), (.int 1), (.int 2), (.int p1)]) (rest := []) (lenOf pd_17 rfl) rfl (by show 2 * 0 + _ ≤ _; exact Nat.le_of_eq rfl) (hb hby at_199) (fun _ _ => ⟨rfl, e110, (by decide : 5 + 0 ≤ _), (by decide : 32 + 0 ≤ _)⟩)
  dsimp only [Pt.U, Pt.locs, Pt.cells, Pt.slots] at X111 l111 y111 z111 st111 hQ111
  subst l111 y111 z111
  obtain ⟨rfl, N111q, hh111⟩ := hQ111
  have e111 : T111.heap = h108 := hh111
  have N111 := Fr.app N110 N111q
  obtain ⟨_, _, ⟨T112, L112, k112, n112⟩, -, X112, ⟨Lc112, hQ112, l112, y112, z112⟩, st112⟩ := Jvm.LawKit.callS X111 hx (y := y27) hown (mvT hZ (wi hw 116 rfl)) (mvT hZ (wi hw 117 rfl)) (mvT hZ (wi hw 3 rfl)) (mvT hZ (wi hw 118 rfl)) (by decide) (backOf (W := 0) (rmA_ge l Z a0 hw [] xr (2 : Int32) (2 : Int32) p1 h108 n0 O108 (by decide)) hZ (wi hw 118 rfl) (wi hw 3 rfl) (by decide) (by decide)) (g := (mkF m 210 #[.val (.int p1), .val (.int p2), .val (.int 2), .val (.int x3), .val (.int x4), .val (.ref b101), .val (.ref xr)] [(.int p1), (.int 2), (.int 2), (.ref xr)])) rfl (by rw [hml]; rfl) (argsL := [(.ref xr), (.int 2), (.int 2), (.int p1)]) (rest := []) (lenOf pd_17 rfl) rfl (by show 2 * 0 + _ ≤ _; exact Nat.le_of_eq rfl) (hb hby at_210) (fun _ _ => ⟨rfl, e111, (by decide : 5 + 0 ≤ _), (by decide : 32 + 0 ≤ _)⟩)
  dsimp only [Pt.U, Pt.locs, Pt.cells, Pt.slots] at X112 l112 y112 z112 st112 hQ112
  subst l112 y112 z112
  obtain ⟨rfl, N112q, hh112⟩ := hQ112
  have e112 : T112.heap = h108 := hh112
  have N112 := Fr.app N111 N112q
  obtain ⟨_, _, ⟨T113, L113, k113, n113⟩, -, X113, ⟨Lc113, hQ113, l113, y113, z113⟩, st113⟩ := Jvm.LawKit.callS X112 hx (y := y27) hown (mvT hZ (wi hw 116 rfl)) (mvT hZ (wi hw 117 rfl)) (mvT hZ (wi hw 3 rfl)) (mvT hZ (wi hw 118 rfl)) (by decide) (backOf (W := 0) (rmA_ge l Z a0 hw [] xr (3 : Int32) (2 : Int32) p1 h108 n0 O108 (by decide)) hZ (wi hw 118 rfl) (wi hw 3 rfl) (by decide) (by decide)) (g := (mkF m 221 #[.val (.int p1), .val (.int p2), .val (.int 2), .val (.int x3), .val (.int x4), .val (.ref b101), .val (.ref xr)] [(.int p1), (.int 2), (.int 3), (.ref xr)])) rfl (by rw [hml]; rfl) (argsL := [(.ref xr), (.int 3), (.int 2), (.int p1)]) (rest := []) (lenOf pd_17 rfl) rfl (by show 2 * 0 + _ ≤ _; exact Nat.le_of_eq rfl) (hb hby at_221) (fun _ _ => ⟨rfl, e112, (by decide : 5 + 0 ≤ _), (by decide : 32 + 0 ≤ _)⟩)
  dsimp only [Pt.U, Pt.locs, Pt.cells, Pt.slots] at X113 l113 y113 z113 st113 hQ113
  subst l113 y113 z113
  obtain ⟨rfl, N113q, hh113⟩ := hQ113
  have e113 : T113.heap = h108 := hh113
  have N113 := Fr.app N112 N113q
  obtain ⟨_, _, ⟨T114, L114, k114, n114⟩, -, X114, ⟨Lc114, hQ114, l114, y114, z114⟩, st114⟩ := Jvm.LawKit.callS X113 hx (y := y27) hown (mvT hZ (wi hw 116 rfl)) (mvT hZ (wi hw 117 rfl)) (mvT hZ (wi hw 3 rfl)) (mvT hZ (wi hw 118 rfl)) (by decide) (backOf (W := 0) (rmA_ge l Z a0 hw [] xr (4 : Int32) (2 : Int32) p1 h108 n0 O108 (by decide)) hZ (wi hw 118 rfl) (wi hw 3 rfl) (by decide) (by decide)) (g := (mkF m 232 #[.val (.int p1), .val (.int p2), .val (.int 2), .val (.int x3), .val (.int x4), .val (.ref b101), .val (.ref xr)] [(.int p1), (.int 2), (.int 4), (.ref xr)])) rfl (by rw [hml]; rfl) (argsL := [(.ref xr), (.int 4), (.int 2), (.int p1)]) (rest := []) (lenOf pd_17 rfl) rfl (by show 2 * 0 + _ ≤ _; exact Nat.le_of_eq rfl) (hb hby at_232) (fun _ _ => ⟨rfl, e113, (by decide : 5 + 0 ≤ _), (by decide : 32 + 0 ≤ _)⟩)
  dsimp only [Pt.U, Pt.locs, Pt.cells, Pt.slots] at X114 l114 y114 z114 st114 hQ114
  subst l114 y114 z114
  obtain ⟨rfl, N114q, hh114⟩ := hQ114
  have e114 : T114.heap = h108 := hh114
  have N114 := Fr.app N113 N114q
  obtain ⟨_, _, ⟨T115, L115, k115, n115⟩, -, X115, ⟨Lc115, hQ115, l115, y115, z115⟩, st115⟩ := Jvm.LawKit.callS X114 hx (y := y27) hown (mvT hZ (wi hw 116 rfl)) (mvT hZ (wi hw 117 rfl)) (mvT hZ (wi hw 3 rfl)) (mvT hZ (wi hw 118 rfl)) (by decide) (backOf (W := 0) (rmA_ge l Z a0 hw [] xr (5 : Int32) (2 : Int32) p1 h108 n0 O108 (by decide)) hZ (wi hw 118 rfl) (wi hw 3 rfl) (by decide) (by decide)) (g := (mkF m 243 #[.val (.int p1), .val (.int p2), .val (.int 2), .val (.int x3), .val (.int x4), .val (.ref b101), .val (.ref xr)] [(.int p1), (.int 2), (.int 5), (.ref xr)])) rfl (by rw [hml]; rfl) (argsL := [(.ref xr), (.int 5), (.int 2), (.int p1)]) (rest := []) (lenOf pd_17 rfl) rfl (by show 2 * 0 + _ ≤ _; exact Nat.le_of_eq rfl) (hb hby at_243) (fun _ _ => ⟨rfl, e114, (by decide : 5 + 0 ≤ _), (by decide : 32 + 0 ≤ _)⟩)
  dsimp only [Pt.U, Pt.locs, Pt.cells, Pt.slots] at X115 l115 y115 z115 st115 hQ115
  subst l115 y115 z115
  obtain ⟨rfl, N115q, hh115⟩ := hQ115
  have e115 : T115.heap = h108 := hh115
  have N115 := Fr.app N114 N115q
  obtain ⟨fs, hr, hrun, hended, hW, hsame⟩ := X115.leave (v := some (.int 1)) (fun h => by rw [Bd.returns] at h; cases h)
  refine ⟨_, _, pre0 _ ?_, hrun, hended, _, _, rfl, ?_, ⟨_, rfl⟩, hW, hsame.mono (by decide) (by decide)⟩
  · show Steps p.tables e below (s₁.setTop (mkF m 0 #[.val (.int p1), .val (.int p2), .unset, .unset, .unset, .unset, .unset] [])) _
    refine XS.iloadN X0.here hx rfl (hb hby at_0) rfl ?_
    refine XS.bipush X0.here hx rfl (hb hby at_1) ?_
    refine XS.iand X0.here hx rfl (hb hby at_3) rfl ?_
    show Steps p.tables e below (s₁.setTop (mkF m 4 #[.val (.int p1), .val (.int p2), .unset, .unset, .unset, .unset, .unset] [(.int (p2 &&& (7 : Int32)))])) _
    refine XS.bipush X0.here hx rfl (hb hby at_4) ?_
    refine XS.irem X0.here hx rfl (hb hby at_6) rfl (by decide) ?_
    refine XS.iconst X0.here hx rfl (hb hby at_7) ?_
    show Steps p.tables e below (s₁.setTop (mkF m 8 #[.val (.int p1), .val (.int p2), .unset, .unset, .unset, .unset, .unset] [(.int 1), (.int (irm (p2 &&& (7 : Int32)) (6 : Int32)))])) _
    refine XS.iadd X0.here hx rfl (hb hby at_8) rfl ?_
    show Steps p.tables e below (s₁.setTop (mkF m 9 #[.val (.int p1), .val (.int p2), .unset, .unset, .unset, .unset, .unset] [(.int ((irm (p2 &&& (7 : Int32)) (6 : Int32)) + (1 : Int32)))])) _
    rw [hm]
    show Steps p.tables e below (s₁.setTop (mkF m 9 #[.val (.int p1), .val (.int p2), .unset, .unset, .unset, .unset, .unset] [(.int 2)])) _
    refine XS.istoreN X0.here hx rfl (hb hby at_9) rfl (l' := #[.val (.int p1), .val (.int p2), .val (.int 2), .unset, .unset, .unset, .unset]) rfl ?_
    show Steps p.tables e below (s₁.setTop (mkF m 10 #[.val (.int p1), .val (.int p2), .val (.int 2), .unset, .unset, .unset, .unset] [])) _
    refine seg10 X0 hx hby p1 p2 (2 : Int32) x3 h3 ?_
    show Steps p.tables e below (s₁.setTop (mkF m 22 #[.val (.int p1), .val (.int p2), .val (.int 2), .unset, .unset, .unset, .unset] [(.int x3)])) _
    refine XS.istoreN X0.here hx rfl (hb hby at_22) rfl (l' := #[.val (.int p1), .val (.int p2), .val (.int 2), .val (.int x3), .unset, .unset, .unset]) rfl ?_
    show Steps p.tables e below (s₁.setTop (mkF m 23 #[.val (.int p1), .val (.int p2), .val (.int 2), .val (.int x3), .unset, .unset, .unset] [])) _
    refine seg23 X0 hx hby p1 p2 (2 : Int32) x3 x4 h4 ?_
    show Steps p.tables e below (s₁.setTop (mkF m 35 #[.val (.int p1), .val (.int p2), .val (.int 2), .val (.int x3), .unset, .unset, .unset] [(.int x4)])) _
    refine XS.istore X0.here hx rfl (hb hby at_35) rfl (l' := #[.val (.int p1), .val (.int p2), .val (.int 2), .val (.int x3), .val (.int x4), .unset, .unset]) rfl ?_
    show Steps p.tables e below (s₁.setTop (mkF m 37 #[.val (.int p1), .val (.int p2), .val (.int 2), .val (.int x3), .val (.int x4), .unset, .unset] [])) _
    refine st101 _ ?_
    show Steps p.tables e below (T101.setTop (mkF m 119 #[.val (.int p1), .val (.int p2), .val (.int 2), .val (.int x3), .val (.int x4), .val (.ref b101), .unset] [])) _
    refine st102 _ ?_
    show Steps p.tables e below (T102.setTop (mkF m 160 #[.val (.int p1), .val (.int p2), .val (.int 2), .val (.int x3), .val (.int x4), .val (.ref b101), .unset] [])) _
    refine st103 _ ?_
    show Steps p.tables e below (T103.setTop (mkF m 163 #[.val (.int p1), .val (.int p2), .val (.int 2), .val (.int x3), .val (.int x4), .val (.ref b101), .unset] [(.ref b103)])) _
    refine XS.dup X103.here hx rfl (hb hby at_163) rfl rfl ?_
    refine XS.aload X103.here hx rfl (hb hby at_164) rfl rfl ?_
    show Steps p.tables e below (T103.setTop (mkF m 166 #[.val (.int p1), .val (.int p2), .val (.int 2), .val (.int x3), .val (.int x4), .val (.ref b101), .unset] [(.ref b101), (.ref b103), (.ref b103)])) _
    refine st106.trans ?_
    show Steps p.tables e below (T106.setTop (mkF m 169 #[.val (.int p1), .val (.int p2), .val (.int 2), .val (.int x3), .val (.int x4), .val (.ref b101), .unset] [(.ref b103)])) _
    refine st108 _ ?_
    show Steps p.tables e below (T108.setTop (mkF m 172 #[.val (.int p1), .val (.int p2), .val (.int 2), .val (.int x3), .val (.int x4), .val (.ref b101), .unset] [(.ref xr)])) _
    refine XS.astore X108.here hx rfl (hb hby at_172) rfl rfl (l' := #[.val (.int p1), .val (.int p2), .val (.int 2), .val (.int x3), .val (.int x4), .val (.ref b101), .val (.ref xr)]) rfl ?_
    refine XS.aload X108.here hx rfl (hb hby at_174) rfl rfl ?_
    show Steps p.tables e below (T108.setTop (mkF m 176 #[.val (.int p1), .val (.int p2), .val (.int 2), .val (.int x3), .val (.int x4), .val (.ref b101), .val (.ref xr)] [(.ref xr)])) _
    refine st109.trans ?_
    show Steps p.tables e below (T109.setTop (mkF m 179 #[.val (.int p1), .val (.int p2), .val (.int 2), .val (.int x3), .val (.int x4), .val (.ref b101), .val (.ref xr)] [(.int 2)])) _
    refine XS.iloadN X109.here hx rfl (hb hby at_179) rfl ?_
    refine XS.icmpNo X109.here hx rfl (hb hby at_180) rfl (teq (by decide : (2 : Int32) = (2 : Int32))).2 ?_
    refine XS.aload X109.here hx rfl (hb hby at_183) rfl rfl ?_
    show Steps p.tables e below (T109.setTop (mkF m 185 #[.val (.int p1), .val (.int p2), .val (.int 2), .val (.int x3), .val (.int x4), .val (.ref b101), .val (.ref xr)] [(.ref xr)])) _
    refine XS.iconst X109.here hx rfl (hb hby at_185) ?_
    refine XS.iloadN X109.here hx rfl (hb hby at_186) rfl ?_
    refine XS.iloadN X109.here hx rfl (hb hby at_187) rfl ?_
    show Steps p.tables e below (T109.setTop (mkF m 188 #[.val (.int p1), .val (.int p2), .val (.int 2), .val (.int x3), .val (.int x4), .val (.ref b101), .val (.ref xr)] [(.int p1), (.int 2), (.int 0), (.ref xr)])) _
    refine st110 _ ?_
    show Steps p.tables e below (T110.setTop (mkF m 191 #[.val (.int p1), .val (.int p2), .val (.int 2), .val (.int x3), .val (.int x4), .val (.ref b101), .val (.ref xr)] [(.int 1)])) _
    refine XS.ifNo X110.here hx rfl (hb hby at_191) rfl ((if0 _ _).trans (feq (by decide : ¬ ((1 : Int32) = (0 : Int32)))).1) ?_
    refine XS.aload X110.here hx rfl (hb hby at_194) rfl rfl ?_
    refine XS.iconst X110.here hx rfl (hb hby at_196) ?_
    show Steps p.tables e below (T110.setTop (mkF m 197 #[.val (.int p1), .val (.int p2), .val (.int 2), .val (.int x3), .val (.int x4), .val (.ref b101), .val (.ref xr)] [(.int 1), (.ref xr)])) _
    refine XS.iloadN X110.here hx rfl (hb hby at_197) rfl ?_
    refine XS.iloadN X110.here hx rfl (hb hby at_198) rfl ?_
    show Steps p.tables e below (T110.setTop (mkF m 199 #[.val (.int p1), .val (.int p2), .val (.int 2), .val (.int x3), .val (.int x4), .val (.ref b101), .val (.ref xr)] [(.int p1), (.int 2), (.int 1), (.ref xr)])) _
    refine st111 _ ?_
    show Steps p.tables e below (T111.setTop (mkF m 202 #[.val (.int p1), .val (.int p2), .val (.int 2), .val (.int x3), .val (.int x4), .val (.ref b101), .val (.ref xr)] [(.int 1)])) _
    refine XS.ifNo X111.here hx rfl (hb hby at_202) rfl ((if0 _ _).trans (feq (by decide : ¬ ((1 : Int32) = (0 : Int32)))).1) ?_
    refine XS.aload X111.here hx rfl (hb hby at_205) rfl rfl ?_
    refine XS.iconst X111.here hx rfl (hb hby at_207) ?_
    show Steps p.tables e below (T111.setTop (mkF m 208 #[.val (.int p1), .val (.int p2), .val (.int 2), .val (.int x3), .val (.int x4), .val (.ref b101), .val (.ref xr)] [(.int 2), (.ref xr)])) _
    refine XS.iloadN X111.here hx rfl (hb hby at_208) rfl ?_
    refine XS.iloadN X111.here hx rfl (hb hby at_209) rfl ?_
    show Steps p.tables e below (T111.setTop (mkF m 210 #[.val (.int p1), .val (.int p2), .val (.int 2), .val (.int x3), .val (.int x4), .val (.ref b101), .val (.ref xr)] [(.int p1), (.int 2), (.int 2), (.ref xr)])) _
    refine st112 _ ?_
    show Steps p.tables e below (T112.setTop (mkF m 213 #[.val (.int p1), .val (.int p2), .val (.int 2), .val (.int x3), .val (.int x4), .val (.ref b101), .val (.ref xr)] [(.int 1)])) _
    refine XS.ifNo X112.here hx rfl (hb hby at_213) rfl ((if0 _ _).trans (feq (by decide : ¬ ((1 : Int32) = (0 : Int32)))).1) ?_
    refine XS.aload X112.here hx rfl (hb hby at_216) rfl rfl ?_
    refine XS.iconst X112.here hx rfl (hb hby at_218) ?_
    show Steps p.tables e below (T112.setTop (mkF m 219 #[.val (.int p1), .val (.int p2), .val (.int 2), .val (.int x3), .val (.int x4), .val (.ref b101), .val (.ref xr)] [(.int 3), (.ref xr)])) _
    refine XS.iloadN X112.here hx rfl (hb hby at_219) rfl ?_
    refine XS.iloadN X112.here hx rfl (hb hby at_220) rfl ?_
    show Steps p.tables e below (T112.setTop (mkF m 221 #[.val (.int p1), .val (.int p2), .val (.int 2), .val (.int x3), .val (.int x4), .val (.ref b101), .val (.ref xr)] [(.int p1), (.int 2), (.int 3), (.ref xr)])) _
    refine st113 _ ?_
    show Steps p.tables e below (T113.setTop (mkF m 224 #[.val (.int p1), .val (.int p2), .val (.int 2), .val (.int x3), .val (.int x4), .val (.ref b101), .val (.ref xr)] [(.int 1)])) _
    refine XS.ifNo X113.here hx rfl (hb hby at_224) rfl ((if0 _ _).trans (feq (by decide : ¬ ((1 : Int32) = (0 : Int32)))).1) ?_
    refine XS.aload X113.here hx rfl (hb hby at_227) rfl rfl ?_
    refine XS.iconst X113.here hx rfl (hb hby at_229) ?_
    show Steps p.tables e below (T113.setTop (mkF m 230 #[.val (.int p1), .val (.int p2), .val (.int 2), .val (.int x3), .val (.int x4), .val (.ref b101), .val (.ref xr)] [(.int 4), (.ref xr)])) _
    refine XS.iloadN X113.here hx rfl (hb hby at_230) rfl ?_
    refine XS.iloadN X113.here hx rfl (hb hby at_231) rfl ?_
    show Steps p.tables e below (T113.setTop (mkF m 232 #[.val (.int p1), .val (.int p2), .val (.int 2), .val (.int x3), .val (.int x4), .val (.ref b101), .val (.ref xr)] [(.int p1), (.int 2), (.int 4), (.ref xr)])) _
    refine st114 _ ?_
    show Steps p.tables e below (T114.setTop (mkF m 235 #[.val (.int p1), .val (.int p2), .val (.int 2), .val (.int x3), .val (.int x4), .val (.ref b101), .val (.ref xr)] [(.int 1)])) _
    refine XS.ifNo X114.here hx rfl (hb hby at_235) rfl ((if0 _ _).trans (feq (by decide : ¬ ((1 : Int32) = (0 : Int32)))).1) ?_
    refine XS.aload X114.here hx rfl (hb hby at_238) rfl rfl ?_
    refine XS.iconst X114.here hx rfl (hb hby at_240) ?_
    show Steps p.tables e below (T114.setTop (mkF m 241 #[.val (.int p1), .val (.int p2), .val (.int 2), .val (.int x3), .val (.int x4), .val (.ref b101), .val (.ref xr)] [(.int 5), (.ref xr)])) _
    refine XS.iloadN X114.here hx rfl (hb hby at_241) rfl ?_
    refine XS.iloadN X114.here hx rfl (hb hby at_242) rfl ?_
    show Steps p.tables e below (T114.setTop (mkF m 243 #[.val (.int p1), .val (.int p2), .val (.int 2), .val (.int x3), .val (.int x4), .val (.ref b101), .val (.ref xr)] [(.int p1), (.int 2), (.int 5), (.ref xr)])) _
    refine st115 _ ?_
    show Steps p.tables e below (T115.setTop (mkF m 246 #[.val (.int p1), .val (.int p2), .val (.int 2), .val (.int x3), .val (.int x4), .val (.ref b101), .val (.ref xr)] [(.int 1)])) _
    refine XS.ifNo X115.here hx rfl (hb hby at_246) rfl ((if0 _ _).trans (feq (by decide : ¬ ((1 : Int32) = (0 : Int32)))).1) ?_
    refine XS.iconst X115.here hx rfl (hb hby at_249) ?_
    refine XS.goto X115.here hx rfl (pc0 := 250) (pc' := 254) rfl (hb hby at_250) (by decide) (by decide) ?_
    show Steps p.tables e below (T115.setTop (mkF m 254 #[.val (.int p1), .val (.int p2), .val (.int 2), .val (.int x3), .val (.int x4), .val (.ref b101), .val (.ref xr)] [(.int 1)])) _
    exact retN X115 hx (t := .boolean) Bd.returns (by simp) (hb hby at_254) hr
  · show Q0 h0 n0 _ T115.heap _
    rw [e115]
    exact ⟨rfl, N115⟩
set_option maxRecDepth 65536 in
set_option maxHeartbeats 40000000 in
theorem sg2_300 (l : Launch) (Z : State) (a0 : Array Value) (hw : ∀ d ∈ tables_1, d.before a0 Z = true) (p1 p2 x3 x4 : Int32) (b : Addr) (kb : ClassId) (d0 d1 d2 d3 d4 d5 d6 d7 : Int32) {p : Program} {e : Env} {s : State} {m : MethodId} {args : Array Value} {below : List Frame} {meth : Method} {c : Code} {T0 : State} {L0 : List Loc} (h0 : Heap) (n0 : Nat) (O0 : Old Z n0 h0) (hx : p.tables.exec = Jvm.exec) (hby : c.code = code) (hml : c.maxLocals = 7) (hown : s.vm.findClass "io/roadcrew/resolve/VersionReaderMajorPinLaw" = some m.cls) (hZ : Z.Warmed39 s.vm) (X0 : Stand p l e room_1 s m args below meth c T0 L0 1 8) (e0 : T0.heap = h0) (N0 : Fr n0 L0) (K : Arv Z h0 b kb .char (8 : Int32) [(.int d0), (.int d1), (.int d2), (.int d3), (.int d4), (.int d5), (.int d6), (.int d7)] (.int (0 : Int32))) (gb : n0 ≤ b) (k3 : x3 = (0 : Int32)) (k4 : x4 = (0 : Int32)) :
    ∃ (T' : State) (h' : Heap) (L' : List Loc), Stand p l e room_1 s m args below meth c T' L' 1 8 ∧ T'.heap = h' ∧ Fr n0 L' ∧ Keep h0 h' [b] ∧ Arv Z h' b kb .char (8 : Int32) [(.int d0), (.int d1), (.int d2), (.int (46 : Int32)), (.int d4), (.int d5), (.int d6), (.int d7)] (.int (0 : Int32)) ∧ (∀ target, Steps p.tables e below (T'.setTop (mkF m 160 #[.val (.int p1), .val (.int p2), .val (.int 3), .val (.int x3), .val (.int x4), .val (.ref b), .unset] [])) target → Steps p.tables e below (T0.setTop (mkF m 119 #[.val (.int p1), .val (.int p2), .val (.int 3), .val (.int x3), .val (.int x4), .val (.ref b), .unset] [])) target) := by
  obtain ⟨cl_b_7, Ar_b_7, q_b_7, S_b_7, N_b_7, H_b_7, G_b_7⟩ := id (K)
  have hinb_7 : ¬ ((3 : Int32) < 0 ∨ cl_b_7.slots.size ≤ ((3 : Int32)).toNatClampNeg) := inb_of S_b_7 ⟨by decide, by decide⟩
  obtain ⟨T101, h101, X101, e101, W101, st101⟩ := stC X0 hx hZ e0 Ar_b_7 (j := (3 : Int32)) hinb_7 (g := (mkF m 124 #[.val (.int p1), .val (.int p2), .val (.int 3), .val (.int x3), .val (.int x4), .val (.ref b), .unset] [(.int 46), (.int 3), (.ref b)])) rfl rfl (hb hby at_124)
  have V_b_101 : Arv Z h101 b kb .char (8 : Int32) [(.int d0), (.int d1), (.int d2), (.int 46), (.int d4), (.int d5), (.int d6), (.int d7)] (.int 0) := Arv.set Ar_b_7 q_b_7 S_b_7 N_b_7 H_b_7 G_b_7 (fits_nar_char _) W101 3 rfl (Nat.le_of_ble_eq_true rfl)
  have O101 := O0.wr W101 gb
  have KK101 : Keep h0 h101 [b] := (Keep.refl h0 [b]).wr W101 (Or.inl (List.mem_of_getElem? (i := 0) rfl))
  have N101 := Fr.snoc X101 N0 gb
  refine ⟨_, _, _, X101, e101, N101, KK101, V_b_101, fun target k => ?_⟩
  show Steps p.tables e below (T0.setTop (mkF m 119 #[.val (.int p1), .val (.int p2), .val (.int 3), .val (.int x3), .val (.int x4), .val (.ref b), .unset] [])) _
  refine XS.aload X0.here hx rfl (hb hby at_119) rfl rfl ?_
  refine XS.iloadN X0.here hx rfl (hb hby at_121) rfl ?_
  refine XS.bipush X0.here hx rfl (hb hby at_122) ?_
  show Steps p.tables e below (T0.setTop (mkF m 124 #[.val (.int p1), .val (.int p2), .val (.int 3), .val (.int x3), .val (.int x4), .val (.ref b), .unset] [(.int 46), (.int 3), (.ref b)])) _
  refine st101 _ ?_
  show Steps p.tables e below (T101.setTop (mkF m 125 #[.val (.int p1), .val (.int p2), .val (.int 3), .val (.int x3), .val (.int x4), .val (.ref b), .unset] [])) _
  refine XS.iloadN X101.here hx rfl (hb hby at_125) rfl ?_
  refine XS.ifYes X101.here hx rfl (pc0 := 126) (pc' := 142) rfl (hb hby at_126) rfl ((if0 _ _).trans (teq k3).1) (by decide) (by decide) ?_
  refine XS.iload X101.here hx rfl (hb hby at_142) rfl ?_
  show Steps p.tables e below (T101.setTop (mkF m 144 #[.val (.int p1), .val (.int p2), .val (.int 3), .val (.int x3), .val (.int x4), .val (.ref b), .unset] [(.int x4)])) _
  refine XS.ifYes X101.here hx rfl (pc0 := 144) (pc' := 160) rfl (hb hby at_144) rfl ((if0 _ _).trans (teq k4).1) (by decide) (by decide) ?_
  exact k
set_option maxRecDepth 65536 in
set_option maxHeartbeats 40000000 in
theorem sg2_301 (l : Launch) (Z : State) (a0 : Array Value) (hw : ∀ d ∈ tables_1, d.before a0 Z = true) (p1 p2 x3 x4 : Int32) (b : Addr) (kb : ClassId) (d0 d1 d2 d3 d4 d5 d6 d7 : Int32) {p : Program} {e : Env} {s : State} {m : MethodId} {args : Array Value} {below : List Frame} {meth : Method} {c : Code} {T0 : State} {L0 : List Loc} (h0 : Heap) (n0 : Nat) (O0 : Old Z n0 h0) (hx : p.tables.exec = Jvm.exec) (hby : c.code = code) (hml : c.maxLocals = 7) (hown : s.vm.findClass "io/roadcrew/resolve/VersionReaderMajorPinLaw" = some m.cls) (hZ : Z.Warmed39 s.vm) (X0 : Stand p l e room_1 s m args below meth c T0 L0 1 8) (e0 : T0.heap = h0) (N0 : Fr n0 L0) (K : Arv Z h0 b kb .char (8 : Int32) [(.int d0), (.int d1), (.int d2), (.int d3), (.int d4), (.int d5), (.int d6), (.int d7)] (.int (0 : Int32))) (gb : n0 ≤ b) (k3 : x3 = (0 : Int32)) (k4 : ¬ (x4 = (0 : Int32))) :
    ∃ (T' : State) (h' : Heap) (L' : List Loc), Stand p l e room_1 s m args below meth c T' L' 1 8 ∧ T'.heap = h' ∧ Fr n0 L' ∧ Keep h0 h' [b] ∧ Arv Z h' b kb .char (8 : Int32) [(.int d0), (.int d1), (.int d2), (.int (46 : Int32)), (.int d4), (.int d5), (.int d6), (.int d7)] (.int (0 : Int32)) ∧ (∀ target, Steps p.tables e below (T'.setTop (mkF m 160 #[.val (.int p1), .val (.int p2), .val (.int 3), .val (.int x3), .val (.int x4), .val (.ref b), .unset] [])) target → Steps p.tables e below (T0.setTop (mkF m 119 #[.val (.int p1), .val (.int p2), .val (.int 3), .val (.int x3), .val (.int x4), .val (.ref b), .unset] [])) target) := by
  obtain ⟨cl_b_7, Ar_b_7, q_b_7, S_b_7, N_b_7, H_b_7, G_b_7⟩ := id (K)
  have hinb_7 : ¬ ((3 : Int32) < 0 ∨ cl_b_7.slots.size ≤ ((3 : Int32)).toNatClampNeg) := inb_of S_b_7 ⟨by decide, by decide⟩
  obtain ⟨T101, h101, X101, e101, W101, st101⟩ := stC X0 hx hZ e0 Ar_b_7 (j := (3 : Int32)) hinb_7 (g := (mkF m 124 #[.val (.int p1), .val (.int p2), .val (.int 3), .val (.int x3), .val (.int x4), .val (.ref b), .unset] [(.int 46), (.int 3), (.ref b)])) rfl rfl (hb hby at_124)
  have V_b_101 : Arv Z h101 b kb .char (8 : Int32) [(.int d0), (.int d1), (.int d2), (.int 46), (.int d4), (.int d5), (.int d6), (.int d7)] (.int 0) := Arv.set Ar_b_7 q_b_7 S_b_7 N_b_7 H_b_7 G_b_7 (fits_nar_char _) W101 3 rfl (Nat.le_of_ble_eq_true rfl)
  have O101 := O0.wr W101 gb
  have KK101 : Keep h0 h101 [b] := (Keep.refl h0 [b]).wr W101 (Or.inl (List.mem_of_getElem? (i := 0) rfl))
  have N101 := Fr.snoc X101 N0 gb
  refine ⟨_, _, _, X101, e101, N101, KK101, V_b_101, fun target k => ?_⟩
  show Steps p.tables e below (T0.setTop (mkF m 119 #[.val (.int p1), .val (.int p2), .val (.int 3), .val (.int x3), .val (.int x4), .val (.ref b), .unset] [])) _
  refine XS.aload X0.here hx rfl (hb hby at_119) rfl rfl ?_
  refine XS.iloadN X0.here hx rfl (hb hby at_121) rfl ?_
  refine XS.bipush X0.here hx rfl (hb hby at_122) ?_
  show Steps p.tables e below (T0.setTop (mkF m 124 #[.val (.int p1), .val (.int p2), .val (.int 3), .val (.int x3), .val (.int x4), .val (.ref b), .unset] [(.int 46), (.int 3), (.ref b)])) _
  refine st101 _ ?_
  show Steps p.tables e below (T101.setTop (mkF m 125 #[.val (.int p1), .val (.int p2), .val (.int 3), .val (.int x3), .val (.int x4), .val (.ref b), .unset] [])) _
  refine XS.iloadN X101.here hx rfl (hb hby at_125) rfl ?_
  refine XS.ifYes X101.here hx rfl (pc0 := 126) (pc' := 142) rfl (hb hby at_126) rfl ((if0 _ _).trans (teq k3).1) (by decide) (by decide) ?_
  refine XS.iload X101.here hx rfl (hb hby at_142) rfl ?_
  show Steps p.tables e below (T101.setTop (mkF m 144 #[.val (.int p1), .val (.int p2), .val (.int 3), .val (.int x3), .val (.int x4), .val (.ref b), .unset] [(.int x4)])) _
  refine XS.ifNo X101.here hx rfl (hb hby at_144) rfl ((if0 _ _).trans (feq k4).1) ?_
  refine XS.iloadN X101.here hx rfl (hb hby at_147) rfl ?_
  refine XS.iconst X101.here hx rfl (hb hby at_148) ?_
  show Steps p.tables e below (T101.setTop (mkF m 149 #[.val (.int p1), .val (.int p2), .val (.int 3), .val (.int x3), .val (.int x4), .val (.ref b), .unset] [(.int 2), (.int 3)])) _
  refine XS.icmpYes X101.here hx rfl (pc0 := 149) (pc' := 160) rfl (hb hby at_149) rfl (tlt (by decide : (2 : Int32) < (3 : Int32))).2.2.1 (by decide) (by decide) ?_
  exact k
set_option maxRecDepth 65536 in
set_option maxHeartbeats 40000000 in
theorem sg2_310 (l : Launch) (Z : State) (a0 : Array Value) (hw : ∀ d ∈ tables_1, d.before a0 Z = true) (p1 p2 x3 x4 : Int32) (b : Addr) (kb : ClassId) (d0 d1 d2 d3 d4 d5 d6 d7 : Int32) {p : Program} {e : Env} {s : State} {m : MethodId} {args : Array Value} {below : List Frame} {meth : Method} {c : Code} {T0 : State} {L0 : List Loc} (h0 : Heap) (n0 : Nat) (O0 : Old Z n0 h0) (hx : p.tables.exec = Jvm.exec) (hby : c.code = code) (hml : c.maxLocals = 7) (hown : s.vm.findClass "io/roadcrew/resolve/VersionReaderMajorPinLaw" = some m.cls) (hZ : Z.Warmed39 s.vm) (X0 : Stand p l e room_1 s m args below meth c T0 L0 1 8) (e0 : T0.heap = h0) (N0 : Fr n0 L0) (K : Arv Z h0 b kb .char (8 : Int32) [(.int d0), (.int d1), (.int d2), (.int d3), (.int d4), (.int d5), (.int d6), (.int d7)] (.int (0 : Int32))) (gb : n0 ≤ b) (k3 : ¬ (x3 = (0 : Int32))) (k4 : x4 = (0 : Int32)) :
    ∃ (T' : State) (h' : Heap) (L' : List Loc), Stand p l e room_1 s m args below meth c T' L' 1 8 ∧ T'.heap = h' ∧ Fr n0 L' ∧ Keep h0 h' [b] ∧ Arv Z h' b kb .char (8 : Int32) [(.int d0), (.int d1), (.int d2), (.int (46 : Int32)), (.int d4), (.int (46 : Int32)), (.int d6), (.int d7)] (.int (0 : Int32)) ∧ (∀ target, Steps p.tables e below (T'.setTop (mkF m 160 #[.val (.int p1), .val (.int p2), .val (.int 3), .val (.int x3), .val (.int x4), .val (.ref b), .unset] [])) target → Steps p.tables e below (T0.setTop (mkF m 119 #[.val (.int p1), .val (.int p2), .val (.int 3), .val (.int x3), .val (.int x4), .val (.ref b), .unset] [])) target) := by
  obtain ⟨cl_b_7, Ar_b_7, q_b_7, S_b_7, N_b_7, H_b_7, G_b_7⟩ := id (K)
  have hinb_7 : ¬ ((3 : Int32) < 0 ∨ cl_b_7.slots.size ≤ ((3 : Int32)).toNatClampNeg) := inb_of S_b_7 ⟨by decide, by decide⟩
  obtain ⟨T101, h101, X101, e101, W101, st101⟩ := stC X0 hx hZ e0 Ar_b_7 (j := (3 : Int32)) hinb_7 (g := (mkF m 124 #[.val (.int p1), .val (.int p2), .val (.int 3), .val (.int x3), .val (.int x4), .val (.ref b), .unset] [(.int 46), (.int 3), (.ref b)])) rfl rfl (hb hby at_124)
  have V_b_101 : Arv Z h101 b kb .char (8 : Int32) [(.int d0), (.int d1), (.int d2), (.int 46), (.int d4), (.int d5), (.int d6), (.int d7)] (.int 0) := Arv.set Ar_b_7 q_b_7 S_b_7 N_b_7 H_b_7 G_b_7 (fits_nar_char _) W101 3 rfl (Nat.le_of_ble_eq_true rfl)
  have O101 := O0.wr W101 gb
  have KK101 : Keep h0 h101 [b] := (Keep.refl h0 [b]).wr W101 (Or.inl (List.mem_of_getElem? (i := 0) rfl))
  have N101 := Fr.snoc X101 N0 gb
  obtain ⟨cl_b_30, Ar_b_30, q_b_30, S_b_30, N_b_30, H_b_30, G_b_30⟩ := id (V_b_101)
  have hinb_30 : ¬ ((5 : Int32) < 0 ∨ cl_b_30.slots.size ≤ ((5 : Int32)).toNatClampNeg) := inb_of S_b_30 ⟨by decide, by decide⟩
  obtain ⟨T102, h102, X102, e102, W102, st102⟩ := stC X101 hx hZ e101 Ar_b_30 (j := (5 : Int32)) hinb_30 (g := (mkF m 141 #[.val (.int p1), .val (.int p2), .val (.int 3), .val (.int x3), .val (.int x4), .val (.ref b), .unset] [(.int 46), (.int 5), (.ref b)])) rfl rfl (hb hby at_141)
  have V_b_102 : Arv Z h102 b kb .char (8 : Int32) [(.int d0), (.int d1), (.int d2), (.int 46), (.int d4), (.int 46), (.int d6), (.int d7)] (.int 0) := Arv.set Ar_b_30 q_b_30 S_b_30 N_b_30 H_b_30 G_b_30 (fits_nar_char _) W102 5 rfl (Nat.le_of_ble_eq_true rfl)
  have O102 := O101.wr W102 gb
  have KK102 : Keep h0 h102 [b] := KK101.wr W102 (Or.inl (List.mem_of_getElem? (i := 0) rfl))
  have N102 := Fr.snoc X102 N101 gb
  refine ⟨_, _, _, X102, e102, N102, KK102, V_b_102, fun target k => ?_⟩
  show Steps p.tables e below (T0.setTop (mkF m 119 #[.val (.int p1), .val (.int p2), .val (.int 3), .val (.int x3), .val (.int x4), .val (.ref b), .unset] [])) _
  refine XS.aload X0.here hx rfl (hb hby at_119) rfl rfl ?_
  refine XS.iloadN X0.here hx rfl (hb hby at_121) rfl ?_
  refine XS.bipush X0.here hx rfl (hb hby at_122) ?_
  show Steps p.tables e below (T0.setTop (mkF m 124 #[.val (.int p1), .val (.int p2), .val (.int 3), .val (.int x3), .val (.int x4), .val (.ref b), .unset] [(.int 46), (.int 3), (.ref b)])) _
  refine st101 _ ?_
  show Steps p.tables e below (T101.setTop (mkF m 125 #[.val (.int p1), .val (.int p2), .val (.int 3), .val (.int x3), .val (.int x4), .val (.ref b), .unset] [])) _
  refine XS.iloadN X101.here hx rfl (hb hby at_125) rfl ?_
  refine XS.ifNo X101.here hx rfl (hb hby at_126) rfl ((if0 _ _).trans (feq k3).1) ?_
  refine XS.iloadN X101.here hx rfl (hb hby at_129) rfl ?_
  show Steps p.tables e below (T101.setTop (mkF m 130 #[.val (.int p1), .val (.int p2), .val (.int 3), .val (.int x3), .val (.int x4), .val (.ref b), .unset] [(.int 3)])) _
  refine XS.iconst X101.here hx rfl (hb hby at_130) ?_
  refine XS.icmpNo X101.here hx rfl (hb hby at_131) rfl (flt (by decide : ¬ ((4 : Int32) < (3 : Int32)))).2.2.1 ?_
  refine XS.aload X101.here hx rfl (hb hby at_134) rfl rfl ?_
  show Steps p.tables e below (T101.setTop (mkF m 136 #[.val (.int p1), .val (.int p2), .val (.int 3), .val (.int x3), .val (.int x4), .val (.ref b), .unset] [(.ref b)])) _
  refine XS.iloadN X101.here hx rfl (hb hby at_136) rfl ?_
  refine XS.iconst X101.here hx rfl (hb hby at_137) ?_
  show Steps p.tables e below (T101.setTop (mkF m 138 #[.val (.int p1), .val (.int p2), .val (.int 3), .val (.int x3), .val (.int x4), .val (.ref b), .unset] [(.int 2), (.int 3), (.ref b)])) _
  refine XS.iadd X101.here hx rfl (hb hby at_138) rfl ?_
  rw [show ((3 : Int32) + (2 : Int32)) = (5 : Int32) from by decide]
  show Steps p.tables e below (T101.setTop (mkF m 139 #[.val (.int p1), .val (.int p2), .val (.int 3), .val (.int x3), .val (.int x4), .val (.ref b), .unset] [(.int 5), (.ref b)])) _
  refine XS.bipush X101.here hx rfl (hb hby at_139) ?_
  show Steps p.tables e below (T101.setTop (mkF m 141 #[.val (.int p1), .val (.int p2), .val (.int 3), .val (.int x3), .val (.int x4), .val (.ref b), .unset] [(.int 46), (.int 5), (.ref b)])) _
  refine st102 _ ?_
  show Steps p.tables e below (T102.setTop (mkF m 142 #[.val (.int p1), .val (.int p2), .val (.int 3), .val (.int x3), .val (.int x4), .val (.ref b), .unset] [])) _
  refine XS.iload X102.here hx rfl (hb hby at_142) rfl ?_
  refine XS.ifYes X102.here hx rfl (pc0 := 144) (pc' := 160) rfl (hb hby at_144) rfl ((if0 _ _).trans (teq k4).1) (by decide) (by decide) ?_
  exact k
set_option maxRecDepth 65536 in
set_option maxHeartbeats 40000000 in
theorem sg2_311 (l : Launch) (Z : State) (a0 : Array Value) (hw : ∀ d ∈ tables_1, d.before a0 Z = true) (p1 p2 x3 x4 : Int32) (b : Addr) (kb : ClassId) (d0 d1 d2 d3 d4 d5 d6 d7 : Int32) {p : Program} {e : Env} {s : State} {m : MethodId} {args : Array Value} {below : List Frame} {meth : Method} {c : Code} {T0 : State} {L0 : List Loc} (h0 : Heap) (n0 : Nat) (O0 : Old Z n0 h0) (hx : p.tables.exec = Jvm.exec) (hby : c.code = code) (hml : c.maxLocals = 7) (hown : s.vm.findClass "io/roadcrew/resolve/VersionReaderMajorPinLaw" = some m.cls) (hZ : Z.Warmed39 s.vm) (X0 : Stand p l e room_1 s m args below meth c T0 L0 1 8) (e0 : T0.heap = h0) (N0 : Fr n0 L0) (K : Arv Z h0 b kb .char (8 : Int32) [(.int d0), (.int d1), (.int d2), (.int d3), (.int d4), (.int d5), (.int d6), (.int d7)] (.int (0 : Int32))) (gb : n0 ≤ b) (k3 : ¬ (x3 = (0 : Int32))) (k4 : ¬ (x4 = (0 : Int32))) :
    ∃ (T' : State) (h' : Heap) (L' : List Loc), Stand p l e room_1 s m args below meth c T' L' 1 8 ∧ T'.heap = h' ∧ Fr n0 L' ∧ Keep h0 h' [b] ∧ Arv Z h' b kb .char (8 : Int32) [(.int d0), (.int d1), (.int d2), (.int (46 : Int32)), (.int d4), (.int (46 : Int32)), (.int d6), (.int d7)] (.int (0 : Int32)) ∧ (∀ target, Steps p.tables e below (T'.setTop (mkF m 160 #[.val (.int p1), .val (.int p2), .val (.int 3), .val (.int x3), .val (.int x4), .val (.ref b), .unset] [])) target → Steps p.tables e below (T0.setTop (mkF m 119 #[.val (.int p1), .val (.int p2), .val (.int 3), .val (.int x3), .val (.int x4), .val (.ref b), .unset] [])) target) := by
  obtain ⟨cl_b_7, Ar_b_7, q_b_7, S_b_7, N_b_7, H_b_7, G_b_7⟩ := id (K)
  have hinb_7 : ¬ ((3 : Int32) < 0 ∨ cl_b_7.slots.size ≤ ((3 : Int32)).toNatClampNeg) := inb_of S_b_7 ⟨by decide, by decide⟩
  obtain ⟨T101, h101, X101, e101, W101, st101⟩ := stC X0 hx hZ e0 Ar_b_7 (j := (3 : Int32)) hinb_7 (g := (mkF m 124 #[.val (.int p1), .val (.int p2), .val (.int 3), .val (.int x3), .val (.int x4), .val (.ref b), .unset] [(.int 46), (.int 3), (.ref b)])) rfl rfl (hb hby at_124)
  have V_b_101 : Arv Z h101 b kb .char (8 : Int32) [(.int d0), (.int d1), (.int d2), (.int 46), (.int d4), (.int d5), (.int d6), (.int d7)] (.int 0) := Arv.set Ar_b_7 q_b_7 S_b_7 N_b_7 H_b_7 G_b_7 (fits_nar_char _) W101 3 rfl (Nat.le_of_ble_eq_true rfl)
  have O101 := O0.wr W101 gb
  have KK101 : Keep h0 h101 [b] := (Keep.refl h0 [b]).wr W101 (Or.inl (List.mem_of_getElem? (i := 0) rfl))
  have N101 := Fr.snoc X101 N0 gb
  obtain ⟨cl_b_30, Ar_b_30, q_b_30, S_b_30, N_b_30, H_b_30, G_b_30⟩ := id (V_b_101)
  have hinb_30 : ¬ ((5 : Int32) < 0 ∨ cl_b_30.slots.size ≤ ((5 : Int32)).toNatClampNeg) := inb_of S_b_30 ⟨by decide, by decide⟩
  obtain ⟨T102, h102, X102, e102, W102, st102⟩ := stC X101 hx hZ e101 Ar_b_30 (j := (5 : Int32)) hinb_30 (g := (mkF m 141 #[.val (.int p1), .val (.int p2), .val (.int 3), .val (.int x3), .val (.int x4), .val (.ref b), .unset] [(.int 46), (.int 5), (.ref b)])) rfl rfl (hb hby at_141)
  have V_b_102 : Arv Z h102 b kb .char (8 : Int32) [(.int d0), (.int d1), (.int d2), (.int 46), (.int d4), (.int 46), (.int d6), (.int d7)] (.int 0) := Arv.set Ar_b_30 q_b_30 S_b_30 N_b_30 H_b_30 G_b_30 (fits_nar_char _) W102 5 rfl (Nat.le_of_ble_eq_true rfl)
  have O102 := O101.wr W102 gb
  have KK102 : Keep h0 h102 [b] := KK101.wr W102 (Or.inl (List.mem_of_getElem? (i := 0) rfl))
  have N102 := Fr.snoc X102 N101 gb
  refine ⟨_, _, _, X102, e102, N102, KK102, V_b_102, fun target k => ?_⟩
  show Steps p.tables e below (T0.setTop (mkF m 119 #[.val (.int p1), .val (.int p2), .val (.int 3), .val (.int x3), .val (.int x4), .val (.ref b), .unset] [])) _
  refine XS.aload X0.here hx rfl (hb hby at_119) rfl rfl ?_
  refine XS.iloadN X0.here hx rfl (hb hby at_121) rfl ?_
  refine XS.bipush X0.here hx rfl (hb hby at_122) ?_
  show Steps p.tables e below (T0.setTop (mkF m 124 #[.val (.int p1), .val (.int p2), .val (.int 3), .val (.int x3), .val (.int x4), .val (.ref b), .unset] [(.int 46), (.int 3), (.ref b)])) _
  refine st101 _ ?_
  show Steps p.tables e below (T101.setTop (mkF m 125 #[.val (.int p1), .val (.int p2), .val (.int 3), .val (.int x3), .val (.int x4), .val (.ref b), .unset] [])) _
  refine XS.iloadN X101.here hx rfl (hb hby at_125) rfl ?_
  refine XS.ifNo X101.here hx rfl (hb hby at_126) rfl ((if0 _ _).trans (feq k3).1) ?_
  refine XS.iloadN X101.here hx rfl (hb hby at_129) rfl ?_
  show Steps p.tables e below (T101.setTop (mkF m 130 #[.val (.int p1), .val (.int p2), .val (.int 3), .val (.int x3), .val (.int x4), .val (.ref b), .unset] [(.int 3)])) _
  refine XS.iconst X101.here hx rfl (hb hby at_130) ?_
  refine XS.icmpNo X101.here hx rfl (hb hby at_131) rfl (flt (by decide : ¬ ((4 : Int32) < (3 : Int32)))).2.2.1 ?_
  refine XS.aload X101.here hx rfl (hb hby at_134) rfl rfl ?_
  show Steps p.tables e below (T101.setTop (mkF m 136 #[.val (.int p1), .val (.int p2), .val (.int 3), .val (.int x3), .val (.int x4), .val (.ref b), .unset] [(.ref b)])) _
  refine XS.iloadN X101.here hx rfl (hb hby at_136) rfl ?_
  refine XS.iconst X101.here hx rfl (hb hby at_137) ?_
  show Steps p.tables e below (T101.setTop (mkF m 138 #[.val (.int p1), .val (.int p2), .val (.int 3), .val (.int x3), .val (.int x4), .val (.ref b), .unset] [(.int 2), (.int 3), (.ref b)])) _
  refine XS.iadd X101.here hx rfl (hb hby at_138) rfl ?_
  rw [show ((3 : Int32) + (2 : Int32)) = (5 : Int32) from by decide]
  show Steps p.tables e below (T101.setTop (mkF m 139 #[.val (.int p1), .val (.int p2), .val (.int 3), .val (.int x3), .val (.int x4), .val (.ref b), .unset] [(.int 5), (.ref b)])) _
  refine XS.bipush X101.here hx rfl (hb hby at_139) ?_
  show Steps p.tables e below (T101.setTop (mkF m 141 #[.val (.int p1), .val (.int p2), .val (.int 3), .val (.int x3), .val (.int x4), .val (.ref b), .unset] [(.int 46), (.int 5), (.ref b)])) _
  refine st102 _ ?_
  show Steps p.tables e below (T102.setTop (mkF m 142 #[.val (.int p1), .val (.int p2), .val (.int 3), .val (.int x3), .val (.int x4), .val (.ref b), .unset] [])) _
  refine XS.iload X102.here hx rfl (hb hby at_142) rfl ?_
  refine XS.ifNo X102.here hx rfl (hb hby at_144) rfl ((if0 _ _).trans (feq k4).1) ?_
  refine XS.iloadN X102.here hx rfl (hb hby at_147) rfl ?_
  show Steps p.tables e below (T102.setTop (mkF m 148 #[.val (.int p1), .val (.int p2), .val (.int 3), .val (.int x3), .val (.int x4), .val (.ref b), .unset] [(.int 3)])) _
  refine XS.iconst X102.here hx rfl (hb hby at_148) ?_
  refine XS.icmpYes X102.here hx rfl (pc0 := 149) (pc' := 160) rfl (hb hby at_149) rfl (tlt (by decide : (2 : Int32) < (3 : Int32))).2.2.1 (by decide) (by decide) ?_
  exact k
theorem sg2_3 (l : Launch) (Z : State) (a0 : Array Value) (hw : ∀ d ∈ tables_1, d.before a0 Z = true) (p1 p2 x3 x4 f2 f4 : Int32) (b : Addr) (kb : ClassId) (d0 d1 d2 d3 d4 d5 d6 d7 : Int32) {p : Program} {e : Env} {s : State} {m : MethodId} {args : Array Value} {below : List Frame} {meth : Method} {c : Code} {T0 : State} {L0 : List Loc} (h0 : Heap) (n0 : Nat) (O0 : Old Z n0 h0) (hx : p.tables.exec = Jvm.exec) (hby : c.code = code) (hml : c.maxLocals = 7) (hown : s.vm.findClass "io/roadcrew/resolve/VersionReaderMajorPinLaw" = some m.cls) (hZ : Z.Warmed39 s.vm) (X0 : Stand p l e room_1 s m args below meth c T0 L0 1 8) (e0 : T0.heap = h0) (N0 : Fr n0 L0) (K : Arv Z h0 b kb .char (8 : Int32) [(.int d0), (.int d1), (.int d2), (.int d3), (.int d4), (.int d5), (.int d6), (.int d7)] (.int (0 : Int32))) (gb : n0 ≤ b) (hf2 : f2 = if x3 = (0 : Int32) then d5 else (46 : Int32)) :
    ∃ (T' : State) (h' : Heap) (L' : List Loc), Stand p l e room_1 s m args below meth c T' L' 1 8 ∧ T'.heap = h' ∧ Fr n0 L' ∧ Keep h0 h' [b] ∧ Arv Z h' b kb .char (8 : Int32) [(.int d0), (.int d1), (.int d2), (.int (46 : Int32)), (.int d4), (.int f2), (.int d6), (.int d7)] (.int (0 : Int32)) ∧ (∀ target, Steps p.tables e below (T'.setTop (mkF m 160 #[.val (.int p1), .val (.int p2), .val (.int 3), .val (.int x3), .val (.int x4), .val (.ref b), .unset] [])) target → Steps p.tables e below (T0.setTop (mkF m 119 #[.val (.int p1), .val (.int p2), .val (.int 3), .val (.int x3), .val (.int x4), .val (.ref b), .unset] [])) target) := by
  by_cases k3 : x3 = (0 : Int32)
  · rw [if_pos k3] at hf2; rw [hf2]
    by_cases k4 : x4 = (0 : Int32)
    · exact sg2_300 l Z a0 hw p1 p2 x3 x4 b kb d0 d1 d2 d3 d4 d5 d6 d7 h0 n0 O0 hx hby hml hown hZ X0 e0 N0 K gb k3 k4
    · exact sg2_301 l Z a0 hw p1 p2 x3 x4 b kb d0 d1 d2 d3 d4 d5 d6 d7 h0 n0 O0 hx hby hml hown hZ X0 e0 N0 K gb k3 k4
  · rw [if_neg k3] at hf2; rw [hf2]
    by_cases k4 : x4 = (0 : Int32)
    · exact sg2_310 l Z a0 hw p1 p2 x3 x4 b kb d0 d1 d2 d3 d4 d5 d6 d7 h0 n0 O0 hx hby hml hown hZ X0 e0 N0 K gb k3 k4
    · exact sg2_311 l Z a0 hw p1 p2 x3 x4 b kb d0 d1 d2 d3 d4 d5 d6 d7 h0 n0 O0 hx hby hml hown hZ X0 e0 N0 K gb k3 k4
set_option maxRecDepth 65536 in
set_option maxHeartbeats 40000000 in
theorem rm0_3 (l : Launch) (Z : State) (a0 : Array Value) (hw : ∀ d ∈ tables_1, d.before a0 Z = true) (ws : List Jvm.Cond) (p1 p2 : Int32) (G1 : Int32) (G3 : Value) (x3 x4 f2 f4 : Int32) (d0 d1 d2 d3 d4 d5 d6 d7 : Int32) (h0 : Heap) (n0 : Nat) (O0 : Old Z n0 h0) (S_CS : Sta Z Z.heap "java/lang/String" "COMPACT_STRINGS" "Z" (.int G1)) (hG1 : ¬ (G1 = (0 : Int32))) (S_SF : Sta Z Z.heap "jdk/internal/util/Preconditions" "SIOOBE_FORMATTER" "Ljava/util/function/BiFunction;" G3) (rG3 : G3.isRef = true) (hd0 : d0 = dig p1 (0 : Int32)) (hd1 : d1 = dig p1 (1 : Int32)) (hd2 : d2 = dig p1 (2 : Int32)) (hd3 : d3 = dig p1 (3 : Int32)) (hd4 : d4 = dig p1 (4 : Int32)) (hd5 : d5 = dig p1 (5 : Int32)) (hd6 : d6 = dig p1 (6 : Int32)) (hd7 : d7 = dig p1 (7 : Int32)) (h3 : x3 = if (p2 &&& (8 : Int32)) = (0 : Int32) then (0 : Int32) else (1 : Int32)) (h4 : x4 = if (p2 &&& (16 : Int32)) = (0 : Int32) then (0 : Int32) else (1 : Int32)) (hf2 : f2 = if x3 = (0 : Int32) then d5 else (46 : Int32)) (hg2 : ¬ f2 < 0 ∧ ¬ (255 : Int32) < f2) (hm : ((irm (p2 &&& (7 : Int32)) (6 : Int32)) + (1 : Int32)) = (3 : Int32)) :
    MetFree l x (head1 (Jvm.Cond.code x code maxLocals ret :: ws) room_1) (fun a_ U => a_ = #[(.int p1), (.int p2)] ∧ Z.Warmed39 U.vm ∧ U.heap = h0) (fun _ _ _ _ _ => True) (fun _ U o U' => ∃ v L, o = .returned v ∧ Q0 h0 n0 v U'.heap L ∧ FrameEnd U o U' L room_1.cells room_1.slots) := by
  refine MetFree.of_bodySF (plainFor_of_name pn_0) hisR ?_
  intro p e s m args below meth c s₁ Bd hml0 hP hK
  obtain ⟨rfl, hZ, hh⟩ := hP
  have hx := Bd.exec
  have hby := Bd.bytes
  have hml : c.maxLocals = 7 := hml0
  have hown : s.vm.findClass "io/roadcrew/resolve/VersionReaderMajorPinLaw" = some m.cls := findClass_of_methodNamed Bd.named
  have hnm := (name_of_methodNamed Bd.named Bd.method).1
  have X0 : Stand p l e room_1 s m #[(.int p1), (.int p2)] below meth c s₁ [] 0 0 := Stand.of_body Bd
  have e0 : s₁.heap = h0 := by rw [← hh, Bd.state]; rfl
  have N0 := Fr.nil n0
  have pre0 : ∀ tg, Steps p.tables e below (s₁.setTop (mkF m 0 #[.val (.int p1), .val (.int p2), .unset, .unset, .unset, .unset, .unset] [])) tg → Steps p.tables e below (s₁.setTop (entryFrame m #[(.int p1), (.int p2)] maxLocals)) tg := fun tg kq => castTop (ef_II_7m m p1 p2) kq
  obtain ⟨T101, h101, L101, b101, kb101, X101, e101, Ns101, K101, szb101, Vb101, st101⟩ := sg1 l Z a0 hw p1 p2 (3 : Int32) x3 x4 d0 d1 d2 d3 d4 d5 d6 d7 h0 n0 O0 hx hby hml hown hZ X0 e0 N0 hd0 hd1 hd2 hd3 hd4 hd5 hd6 hd7
  have g_b101 : n0 ≤ b101 := Nat.le_trans (O0.1 ▸ O0.2.1) szb101
  have sz_b101 : h0.size ≤ b101 := Nat.le_trans (Nat.le_refl _) szb101
  have O101 := O0.keep K101 all0
  have KK101 : Keep h0 h101 [] := (Keep.refl h0 []).trans K101 all0
  obtain ⟨T102, h102, L102, X102, e102, Ns102, K102, Vc102, st102⟩ := sg2_3 l Z a0 hw p1 p2 x3 x4 f2 f4 b101 kb101 d0 d1 d2 d3 d4 d5 d6 d7 h101 n0 O101 hx hby hml hown hZ X101 e101 Ns101 Vb101 g_b101 hf2
  have O102 := O101.keep K102 (allS g_b101 all0)
  have KK102 : Keep h0 h102 [] := KK101.trans K102 (allS (Or.inr sz_b101) all0)
  obtain ⟨T103, h103, X103, e103, E103, A103, D103, -, st103⟩ := newO X102 hx hZ hown (wi hw 5 rfl) (wi hw 6 rfl) (wi hw 7 rfl) e102 (g := (mkF m 160 #[.val (.int p1), .val (.int p2), .val (.int 3), .val (.int x3), .val (.int x4), .val (.ref b101), .unset] [])) rfl (hb hby at_160) (by decide) (by decide)
  obtain ⟨b103, g103⟩ : ∃ z, z = h102.size := ⟨_, rfl⟩
  rw [← g103] at A103 D103 st103
  have g_b103 : n0 ≤ b103 := Nat.le_trans (O102.1 ▸ O102.2.1) (Nat.le_of_eq g103.symm)
  have sz_b103 : h0.size ≤ b103 := Nat.le_trans KK102.1 (Nat.le_of_eq g103.symm)
  have O103 := O102.ext E103
  have KK103 : Keep h0 h103 [] := KK102.ext E103
  have F_coder_b103 : Fld Z h103 b103 "java/lang/String" "coder" "B" (.int 0) := D103 (Or.inr (wi hw 31 rfl)) (ty := .byte) (by decide)
  have F_value_b103 : Fld Z h103 b103 "java/lang/String" "value" "[B" .null := D103 (Or.inr (wi hw 33 rfl)) (ty := (.array .byte)) (by decide)
  have fV_b101_3_104 := (Vc102.ext E103)
  have shp105 : ∀ c ∈ ([d0, d1, d2, (46 : Int32), d4, f2, d6, d7] : List Int32), ¬ c < 0 ∧ ¬ (255 : Int32) < c := (own_memS (own_dd hd0).1 (own_memS (own_dd hd1).1 (own_memS (own_dd hd2).1 (own_memS (by decide) (own_memS (own_dd hd4).1 (own_memS hg2 (own_memS (own_dd hd6).1 (own_memS (own_dd hd7).1 own_mem0))))))))
  have sA105 : Arv Z h103 b101 kb101 .char (8 : Int32) (([d0, d1, d2, (46 : Int32), d4, f2, d6, d7] : List Int32).map Value.int) (.int (0 : Int32)) := fV_b101_3_104
  obtain ⟨_, _, ⟨T106, L106, k106, n106⟩, -, X106, ⟨Lc106, hQ106, l106, y106, z106⟩, st106⟩ := X103.specialBack hx (y := y2) rfl hown (mvT hZ (wi hw 8 rfl)) (mvT hZ (wi hw 9 rfl)) (mvT hZ (wi hw 10 rfl)) (by decide) (StrChars.Road.backV (W := 1) hZ (fun d hd => hw d (own_w_backV d hd)) (kI := 4) (wi hw 6 rfl) (cs := ([d0, d1, d2, (46 : Int32), d4, f2, d6, d7] : List Int32)) (bs := ([d0, d1, d2, (46 : Int32), d4, f2, d6, d7] : List Int32).map (fun c => c.toInt8.toInt32)) (n := 8) g_b103 (O103.1 ▸ O103.2.1) A103 F_value_b103 F_coder_b103 sA105 (S_CS.ext O103.2) hG1 rfl rfl (by decide) (by decide) shp105 rfl (by decide) (by decide)) (g := (mkF m 166 #[.val (.int p1), .val (.int p2), .val (.int 3), .val (.int x3), .val (.int x4), .val (.ref b101), .unset] [(.ref b101), (.ref b103), (.ref b103)])) rfl (by rw [hml]; rfl) (Steps.refl _) (a := b103) (argsL := [(.ref b101)]) (rest := [(.ref b103)]) (lenOf pd_15 rfl) rfl (by show 2 * 0 + _ ≤ _; exact Nat.le_of_eq rfl) (hb hby at_166) (fun _ _ => ⟨rfl, e103, (by decide : 2 + 1 ≤ _), (by decide : 12 + 8 ≤ _)⟩)
  dsimp only [Pt.U, Pt.locs, Pt.cells, Pt.slots] at X106 l106 y106 z106 st106 hQ106
  subst l106 y106 z106
  obtain ⟨rfl, N106q, K106, sE105, sC105, t105, kb105, sg105, ssz105, sne105, sV105, sK105⟩ := hQ106
  obtain ⟨h106, e106⟩ : ∃ z, T106.heap = z := ⟨_, rfl⟩
  rw [e106] at K106 sE105 sC105 sV105 sK105
  have g_t105 : n0 ≤ t105 := Nat.le_trans (O103.1 ▸ O103.2.1) ssz105
  have sz_t105 : h0.size ≤ t105 := Nat.le_trans KK103.1 ssz105
  have O106 := O103.keep K106 (allS g_b103 all0)
  have KK106 : Keep h0 h106 [] := KK103.trans K106 (allS (Or.inr sz_b103) all0)
  have N106 := Fr.app Ns102 N106q
  have scd105 : StrChars.Road.CodA ([d0, d1, d2, (46 : Int32), d4, f2, d6, d7] : List Int32) 0 (8 : Int32) ((([d0, d1, d2, (46 : Int32), d4, f2, d6, d7] : List Int32).map (fun c => c.toInt8.toInt32)).map Value.int) := StrChars.Road.codOf (n := 8) rfl (fun c hc => (shp105 c hc).2)
  obtain ⟨_, _, ⟨T108, L108, k108, n108⟩, -, X108, ⟨Lc108, hQ108, l108, y108, z108⟩, st108⟩ := Jvm.LawKit.callS X106 hx (y := y8) hown (mvT hZ (wi hw 34 rfl)) (mvT hZ (wi hw 35 rfl)) (mvT hZ (wi hw 36 rfl)) (mvT hZ (wi hw 37 rfl)) (by decide) (backOf (W := 0) (rmM l Z a0 hw [] G1 G3 b103 (3 : Int32) 3 ([d0, d1, d2, (46 : Int32), d4, f2, d6, d7] : List Int32) ([d0, d1, d2] : List Int32) h106 n0 O106 S_CS hG1 S_SF rG3 ⟨_, _, _, _, sE105, sV105, sC105, sK105, scd105, shp105, (Nat.le_of_ble_eq_true rfl)⟩ rfl ⟨(StrChars.lo8 d0), (StrChars.lo8 d1), (StrChars.lo8 d2), (StrChars.lo8 (46 : Int32)), (StrChars.lo8 d4), (StrChars.lo8 f2), (StrChars.lo8 d6), (StrChars.lo8 d7), Or.inr (Or.inr (Or.inl ⟨rfl, rfl, (own_dd hd0).2, (own_dd hd1).2, (own_dd hd2).2⟩))⟩ ⟨by decide, by decide, by decide, by decide, by decide, by decide, by decide, rfl⟩ rfl (own_memS (own_dd hd0).1 (own_memS (own_dd hd1).1 (own_memS (own_dd hd2).1 own_mem0))) (Nat.le_of_ble_eq_true rfl)) hZ (wi hw 37 rfl) (wi hw 36 rfl) (by decide) (by decide)) (g := (mkF m 169 #[.val (.int p1), .val (.int p2), .val (.int 3), .val (.int x3), .val (.int x4), .val (.ref b101), .unset] [(.ref b103)])) rfl (by rw [hml]; rfl) (argsL := [(.ref b103)]) (rest := []) (lenOf pd_16 rfl) rfl (by show 2 * 0 + _ ≤ _; exact Nat.le_of_eq rfl) (hb hby at_169) (fun _ _ => ⟨rfl, e106, (by decide : 3 + 2 ≤ _), (by decide : 20 + 12 ≤ _)⟩)
  dsimp only [Pt.U, Pt.locs, Pt.cells, Pt.slots] at X108 l108 y108 z108 st108 hQ108
  subst l108 y108 z108
  obtain ⟨xr, rfl, N108q, K108, szx108, T108q⟩ := hQ108
  obtain ⟨h108, e108⟩ : ∃ z, T108.heap = z := ⟨_, rfl⟩
  rw [e108] at K108 T108q
  obtain ⟨tr107, kbr107, Nr107, vsr107, sEr107, sVr107, sCr107, sKr107, scdr107, shpr107, shlr107⟩ := id T108q
  have g_xr : n0 ≤ xr := Nat.le_trans (O106.1 ▸ O106.2.1) szx108
  have sz_xr : h0.size ≤ xr := Nat.le_trans KK106.1 szx108
  have O108 := O106.keep K108 all0
  have KK108 : Keep h0 h108 [] := KK106.trans K108 all0
  have N108 := Fr.app N106 N108q
  obtain ⟨cq109, kq109, q109a, q109b, q109c⟩ := isOf hZ e108 sEr107
  obtain ⟨_, _, ⟨T109, L109, k109, n109⟩, -, X109, ⟨Lc109, hQ109, l109, y109, z109⟩, st109⟩ := X108.virtualBack hx (y := y12) (z := y12) hown (mvT hZ (wi hw 115 rfl)) (mvT hZ (wi hw 54 rfl)) (notFace_of_selects (args := #[]) (mvT hZ (wi hw 56 rfl))) (mvT hZ (wi hw 56 rfl)) (mvT hZ (wi hw 55 rfl)) (by decide) (StrChars.Road.lenW (W := 0) hZ (fun d hd => hw d (own_w_lenW d hd)) (kI := 4) (wi hw 6 rfl) sEr107 sVr107 sCr107 sKr107 scdr107 (own_up _ shpr107) (S_CS.ext O108.2) hG1 shlr107 (by decide) (by decide)) q109a q109c (g := (mkF m 176 #[.val (.int p1), .val (.int p2), .val (.int 3), .val (.int x3), .val (.int x4), .val (.ref b101), .val (.ref xr)] [(.ref xr)])) rfl (by rw [hml]; rfl) (Steps.refl _) (argsL := []) (rest := []) (lenOf pd_5 rfl) rfl (by show 2 * 0 + _ ≤ _; exact Nat.le_of_eq rfl) (hb hby at_176) (fun _ _ => ⟨rfl, e108, (by decide : 5 + 0 ≤ _), (by decide : 32 + 0 ≤ _)⟩)
  dsimp only [Pt.U, Pt.locs, Pt.cells, Pt.slots] at X109 l109 y109 z109 st109 hQ109
  subst l109 y109 z109
  obtain ⟨rfl, rfl, hh109⟩ := hQ109
  have N109q : Fr n0 ([] : List Loc) := Fr.nil n0
  have e109 : T109.heap = h108 := hh109
  have N109 := Fr.app N108 N109q
  obtain ⟨_, _, ⟨T110, L110, k110, n110⟩, -, X110, ⟨Lc110, hQ110, l110, y110, z110⟩, st110⟩ := Jvm.LawKit.callS X109 hx (y := y27) hown (mvT hZ (wi hw 116 rfl)) (mvT hZ (wi hw 117 rfl)) (mvT hZ (wi hw 3 rfl)) (mvT hZ (wi hw 118 rfl)) (by decide) (backOf (W := 0) (rmA_lt l Z a0 hw [] G1 G3 xr (0 : Int32) (3 : Int32) p1 0 ([d0, d1, d2] : List Int32) h108 n0 O108 S_CS hG1 S_SF rG3 ⟨_, _, _, _, sEr107, sVr107, sCr107, sKr107, scdr107, shpr107, shlr107⟩ (by decide) (by decide) (Nat.le_of_ble_eq_true rfl) hd0) hZ (wi hw 118 rfl) (wi hw 3 rfl) (by decide) (by decide)) (g := (mkF m 188 #[.val (.int p1), .val (.int p2), .val (.int 3), .val (.int x3), .val (.int x4), .val (.ref b101), .val (.ref xr)] [(.int p1), (.int 3), (.int 0), (.ref xr)])) rfl (by rw [hml]; rfl) (argsL := [(.ref xr), (.int 0), (.int 3), (.int p1)]) (rest := []) (lenOf pd_17 rfl) rfl (by show 2 * 0 + _ ≤ _; exact Nat.le_of_eq rfl) (hb hby at_188) (fun _ _ => ⟨rfl, e109, (by decide : 5 + 0 ≤ _), (by decide : 32 + 0 ≤ _)⟩)
  dsimp only [Pt.U, Pt.locs, Pt.cells, Pt.slots] at X110 l110 y110 z110 st110 hQ110
  subst l110 y110 z110
  obtain ⟨rfl, N110q, hh110⟩ := hQ110
  have e110 : T110.heap = h108 := hh110
  have N110 := Fr.app N109 N110q
  obtain ⟨_, _, ⟨T111, L111, k111, n111⟩, -, X111, ⟨Lc111, hQ111, l111, y111, z111⟩, st111⟩ := Jvm.LawKit.callS X110 hx (y := y27) hown (mvT hZ (wi hw 116 rfl)) (mvT hZ (wi hw 117 rfl)) (mvT hZ (wi hw 3 rfl)) (mvT hZ (wi hw 118 rfl)) (by decide) (backOf (W := 0) (rmA_lt l Z a0 hw [] G1 G3 xr (1 : Int32) (3 : Int32) p1 1 ([d0, d1, d2] : List Int32) h108 n0 O108 S_CS hG1 S_SF rG3 ⟨_, _, _, _, sEr107, sVr107, sCr107, sKr107, scdr107, shpr107, shlr107⟩ (by decide) (by decide) (Nat.le_of_ble_eq_true rfl) hd1) hZ (wi hw 118 rfl) (wi hw 3 rfl) (by decide) (by decide)) (g := (mkF m 199 #[.val (.int p1), .val (.int p2), .val (.int 3), .val (.int x3), .val (.int x4), .val (.ref b101), .val (.ref xr)] [(.int p1), (.int 3), (.int 1), (.ref xr)])) rfl (by rw [hml]; rfl) (argsL := [(.ref xr), (.int 1), (.int 3), (.int p1)]) (rest := []) (lenOf pd_17 rfl) rfl (by show 2 * 0 + _ ≤ _; exact Nat.le_of_eq rfl) (hb hby at_199) (fun _ _ => ⟨rfl, e110, (by decide : 5 + 0 ≤ _), (by decide : 32 + 0 ≤ _)⟩)
  dsimp only [Pt.U, Pt.locs, Pt.cells, Pt.slots] at X111 l111 y111 z111 st111 hQ111
  subst l111 y111 z111
  obtain ⟨rfl, N111q, hh111⟩ := hQ111
  have e111 : T111.heap = h108 := hh111
  have N111 := Fr.app N110 N111q
  obtain ⟨_, _, ⟨T112, L112, k112, n112⟩, -, X112, ⟨Lc112, hQ112, l112, y112, z112⟩, st112⟩ := Jvm.LawKit.callS X111 hx (y := y27) hown (mvT hZ (wi hw 116 rfl)) (mvT hZ (wi hw 117 rfl)) (mvT hZ (wi hw 3 rfl)) (mvT hZ (wi hw 118 rfl)) (by decide) (backOf (W := 0) (rmA_lt l Z a0 hw [] G1 G3 xr (2 : Int32) (3 : Int32) p1 2 ([d0, d1, d2] : List Int32) h108 n0 O108 S_CS hG1 S_SF rG3 ⟨_, _, _, _, sEr107, sVr107, sCr107, sKr107, scdr107, shpr107, shlr107⟩ (by decide) (by decide) (Nat.le_of_ble_eq_true rfl) hd2) hZ (wi hw 118 rfl) (wi hw 3 rfl) (by decide) (by decide)) (g := (mkF m 210 #[.val (.int p1), .val (.int p2), .val (.int 3), .val (.int x3), .val (.int x4), .val (.ref b101), .val (.ref xr)] [(.int p1), (.int 3), (.int 2), (.ref xr)])) rfl (by rw [hml]; rfl) (argsL := [(.ref xr), (.int 2), (.int 3), (.int p1)]) (rest := []) (lenOf pd_17 rfl) rfl (by show 2 * 0 + _ ≤ _; exact Nat.le_of_eq rfl) (hb hby at_210) (fun _ _ => ⟨rfl, e111, (by decide : 5 + 0 ≤ _), (by decide : 32 + 0 ≤ _)⟩)
  dsimp only [Pt.U, Pt.locs, Pt.cells, Pt.slots] at X112 l112 y112 z112 st112 hQ112
  subst l112 y112 z112
  obtain ⟨rfl, N112q, hh112⟩ := hQ112
  have e112 : T112.heap = h108 := hh112
  have N112 := Fr.app N111 N112q
  obtain ⟨_, _, ⟨T113, L113, k113, n113⟩, -, X113, ⟨Lc113, hQ113, l113, y113, z113⟩, st113⟩ := Jvm.LawKit.callS X112 hx (y := y27) hown (mvT hZ (wi hw 116 rfl)) (mvT hZ (wi hw 117 rfl)) (mvT hZ (wi hw 3 rfl)) (mvT hZ (wi hw 118 rfl)) (by decide) (backOf (W := 0) (rmA_ge l Z a0 hw [] xr (3 : Int32) (3 : Int32) p1 h108 n0 O108 (by decide)) hZ (wi hw 118 rfl) (wi hw 3 rfl) (by decide) (by decide)) (g := (mkF m 221 #[.val (.int p1), .val (.int p2), .val (.int 3), .val (.int x3), .val (.int x4), .val (.ref b101), .val (.ref xr)] [(.int p1), (.int 3), (.int 3), (.ref xr)])) rfl (by rw [hml]; rfl) (argsL := [(.ref xr), (.int 3), (.int 3), (.int p1)]) (rest := []) (lenOf pd_17 rfl) rfl (by show 2 * 0 + _ ≤ _; exact Nat.le_of_eq rfl) (hb hby at_221) (fun _ _ => ⟨rfl, e112, (by decide : 5 + 0 ≤ _), (by decide : 32 + 0 ≤ _)⟩)
  dsimp only [Pt.U, Pt.locs, Pt.cells, Pt.slots] at X113 l113 y113 z113 st113 hQ113
  subst l113 y113 z113
  obtain ⟨rfl, N113q, hh113⟩ := hQ113
  have e113 : T113.heap = h108 := hh113
  have N113 := Fr.app N112 N113q
  obtain ⟨_, _, ⟨T114, L114, k114, n114⟩, -, X114, ⟨Lc114, hQ114, l114, y114, z114⟩, st114⟩ := Jvm.LawKit.callS X113 hx (y := y27) hown (mvT hZ (wi hw 116 rfl)) (mvT hZ (wi hw 117 rfl)) (mvT hZ (wi hw 3 rfl)) (mvT hZ (wi hw 118 rfl)) (by decide) (backOf (W := 0) (rmA_ge l Z a0 hw [] xr (4 : Int32) (3 : Int32) p1 h108 n0 O108 (by decide)) hZ (wi hw 118 rfl) (wi hw 3 rfl) (by decide) (by decide)) (g := (mkF m 232 #[.val (.int p1), .val (.int p2), .val (.int 3), .val (.int x3), .val (.int x4), .val (.ref b101), .val (.ref xr)] [(.int p1), (.int 3), (.int 4), (.ref xr)])) rfl (by rw [hml]; rfl) (argsL := [(.ref xr), (.int 4), (.int 3), (.int p1)]) (rest := []) (lenOf pd_17 rfl) rfl (by show 2 * 0 + _ ≤ _; exact Nat.le_of_eq rfl) (hb hby at_232) (fun _ _ => ⟨rfl, e113, (by decide : 5 + 0 ≤ _), (by decide : 32 + 0 ≤ _)⟩)
  dsimp only [Pt.U, Pt.locs, Pt.cells, Pt.slots] at X114 l114 y114 z114 st114 hQ114
  subst l114 y114 z114
  obtain ⟨rfl, N114q, hh114⟩ := hQ114
  have e114 : T114.heap = h108 := hh114
  have N114 := Fr.app N113 N114q
  obtain ⟨_, _, ⟨T115, L115, k115, n115⟩, -, X115, ⟨Lc115, hQ115, l115, y115, z115⟩, st115⟩ := Jvm.LawKit.callS X114 hx (y := y27) hown (mvT hZ (wi hw 116 rfl)) (mvT hZ (wi hw 117 rfl)) (mvT hZ (wi hw 3 rfl)) (mvT hZ (wi hw 118 rfl)) (by decide) (backOf (W := 0) (rmA_ge l Z a0 hw [] xr (5 : Int32) (3 : Int32) p1 h108 n0 O108 (by decide)) hZ (wi hw 118 rfl) (wi hw 3 rfl) (by decide) (by decide)) (g := (mkF m 243 #[.val (.int p1), .val (.int p2), .val (.int 3), .val (.int x3), .val (.int x4), .val (.ref b101), .val (.ref xr)] [(.int p1), (.int 3), (.int 5), (.ref xr)])) rfl (by rw [hml]; rfl) (argsL := [(.ref xr), (.int 5), (.int 3), (.int p1)]) (rest := []) (lenOf pd_17 rfl) rfl (by show 2 * 0 + _ ≤ _; exact Nat.le_of_eq rfl) (hb hby at_243) (fun _ _ => ⟨rfl, e114, (by decide : 5 + 0 ≤ _), (by decide : 32 + 0 ≤ _)⟩)
  dsimp only [Pt.U, Pt.locs, Pt.cells, Pt.slots] at X115 l115 y115 z115 st115 hQ115
  subst l115 y115 z115
  obtain ⟨rfl, N115q, hh115⟩ := hQ115
  have e115 : T115.heap = h108 := hh115
  have N115 := Fr.app N114 N115q
  obtain ⟨fs, hr, hrun, hended, hW, hsame⟩ := X115.leave (v := some (.int 1)) (fun h => by rw [Bd.returns] at h; cases h)
  refine ⟨_, _, pre0 _ ?_, hrun, hended, _, _, rfl, ?_, ⟨_, rfl⟩, hW, hsame.mono (by decide) (by decide)⟩
  · show Steps p.tables e below (s₁.setTop (mkF m 0 #[.val (.int p1), .val (.int p2), .unset, .unset, .unset, .unset, .unset] [])) _
    refine XS.iloadN X0.here hx rfl (hb hby at_0) rfl ?_
    refine XS.bipush X0.here hx rfl (hb hby at_1) ?_
    refine XS.iand X0.here hx rfl (hb hby at_3) rfl ?_
    show Steps p.tables e below (s₁.setTop (mkF m 4 #[.val (.int p1), .val (.int p2), .unset, .unset, .unset, .unset, .unset] [(.int (p2 &&& (7 : Int32)))])) _
    refine XS.bipush X0.here hx rfl (hb hby at_4) ?_
    refine XS.irem X0.here hx rfl (hb hby at_6) rfl (by decide) ?_
    refine XS.iconst X0.here hx rfl (hb hby at_7) ?_
    show Steps p.tables e below (s₁.setTop (mkF m 8 #[.val (.int p1), .val (.int p2), .unset, .unset, .unset, .unset, .unset] [(.int 1), (.int (irm (p2 &&& (7 : Int32)) (6 : Int32)))])) _
    refine XS.iadd X0.here hx rfl (hb hby at_8) rfl ?_
    show Steps p.tables e below (s₁.setTop (mkF m 9 #[.val (.int p1), .val (.int p2), .unset, .unset, .unset, .unset, .unset] [(.int ((irm (p2 &&& (7 : Int32)) (6 : Int32)) + (1 : Int32)))])) _
    rw [hm]
    show Steps p.tables e below (s₁.setTop (mkF m 9 #[.val (.int p1), .val (.int p2), .unset, .unset, .unset, .unset, .unset] [(.int 3)])) _
    refine XS.istoreN X0.here hx rfl (hb hby at_9) rfl (l' := #[.val (.int p1), .val (.int p2), .val (.int 3), .unset, .unset, .unset, .unset]) rfl ?_
    show Steps p.tables e below (s₁.setTop (mkF m 10 #[.val (.int p1), .val (.int p2), .val (.int 3), .unset, .unset, .unset, .unset] [])) _
    refine seg10 X0 hx hby p1 p2 (3 : Int32) x3 h3 ?_
    show Steps p.tables e below (s₁.setTop (mkF m 22 #[.val (.int p1), .val (.int p2), .val (.int 3), .unset, .unset, .unset, .unset] [(.int x3)])) _
    refine XS.istoreN X0.here hx rfl (hb hby at_22) rfl (l' := #[.val (.int p1), .val (.int p2), .val (.int 3), .val (.int x3), .unset, .unset, .unset]) rfl ?_
    show Steps p.tables e below (s₁.setTop (mkF m 23 #[.val (.int p1), .val (.int p2), .val (.int 3), .val (.int x3), .unset, .unset, .unset] [])) _
    refine seg23 X0 hx hby p1 p2 (3 : Int32) x3 x4 h4 ?_
    show Steps p.tables e below (s₁.setTop (mkF m 35 #[.val (.int p1), .val (.int p2), .val (.int 3), .val (.int x3), .unset, .unset, .unset] [(.int x4)])) _
    refine XS.istore X0.here hx rfl (hb hby at_35) rfl (l' := #[.val (.int p1), .val (.int p2), .val (.int 3), .val (.int x3), .val (.int x4), .unset, .unset]) rfl ?_
    show Steps p.tables e below (s₁.setTop (mkF m 37 #[.val (.int p1), .val (.int p2), .val (.int 3), .val (.int x3), .val (.int x4), .unset, .unset] [])) _
    refine st101 _ ?_
    show Steps p.tables e below (T101.setTop (mkF m 119 #[.val (.int p1), .val (.int p2), .val (.int 3), .val (.int x3), .val (.int x4), .val (.ref b101), .unset] [])) _
    refine st102 _ ?_
    show Steps p.tables e below (T102.setTop (mkF m 160 #[.val (.int p1), .val (.int p2), .val (.int 3), .val (.int x3), .val (.int x4), .val (.ref b101), .unset] [])) _
    refine st103 _ ?_
    show Steps p.tables e below (T103.setTop (mkF m 163 #[.val (.int p1), .val (.int p2), .val (.int 3), .val (.int x3), .val (.int x4), .val (.ref b101), .unset] [(.ref b103)])) _
    refine XS.dup X103.here hx rfl (hb hby at_163) rfl rfl ?_
    refine XS.aload X103.here hx rfl (hb hby at_164) rfl rfl ?_
    show Steps p.tables e below (T103.setTop (mkF m 166 #[.val (.int p1), .val (.int p2), .val (.int 3), .val (.int x3), .val (.int x4), .val (.ref b101), .unset] [(.ref b101), (.ref b103), (.ref b103)])) _
    refine st106.trans ?_
    show Steps p.tables e below (T106.setTop (mkF m 169 #[.val (.int p1), .val (.int p2), .val (.int 3), .val (.int x3), .val (.int x4), .val (.ref b101), .unset] [(.ref b103)])) _
    refine st108 _ ?_
    show Steps p.tables e below (T108.setTop (mkF m 172 #[.val (.int p1), .val (.int p2), .val (.int 3), .val (.int x3), .val (.int x4), .val (.ref b101), .unset] [(.ref xr)])) _
    refine XS.astore X108.here hx rfl (hb hby at_172) rfl rfl (l' := #[.val (.int p1), .val (.int p2), .val (.int 3), .val (.int x3), .val (.int x4), .val (.ref b101), .val (.ref xr)]) rfl ?_
    refine XS.aload X108.here hx rfl (hb hby at_174) rfl rfl ?_
    show Steps p.tables e below (T108.setTop (mkF m 176 #[.val (.int p1), .val (.int p2), .val (.int 3), .val (.int x3), .val (.int x4), .val (.ref b101), .val (.ref xr)] [(.ref xr)])) _
    refine st109.trans ?_
    show Steps p.tables e below (T109.setTop (mkF m 179 #[.val (.int p1), .val (.int p2), .val (.int 3), .val (.int x3), .val (.int x4), .val (.ref b101), .val (.ref xr)] [(.int 3)])) _
    refine XS.iloadN X109.here hx rfl (hb hby at_179) rfl ?_
    refine XS.icmpNo X109.here hx rfl (hb hby at_180) rfl (teq (by decide : (3 : Int32) = (3 : Int32))).2 ?_
    refine XS.aload X109.here hx rfl (hb hby at_183) rfl rfl ?_
    show Steps p.tables e below (T109.setTop (mkF m 185 #[.val (.int p1), .val (.int p2), .val (.int 3), .val (.int x3), .val (.int x4), .val (.ref b101), .val (.ref xr)] [(.ref xr)])) _
    refine XS.iconst X109.here hx rfl (hb hby at_185) ?_
    refine XS.iloadN X109.here hx rfl (hb hby at_186) rfl ?_
    refine XS.iloadN X109.here hx rfl (hb hby at_187) rfl ?_
    show Steps p.tables e below (T109.setTop (mkF m 188 #[.val (.int p1), .val (.int p2), .val (.int 3), .val (.int x3), .val (.int x4), .val (.ref b101), .val (.ref xr)] [(.int p1), (.int 3), (.int 0), (.ref xr)])) _
    refine st110 _ ?_
    show Steps p.tables e below (T110.setTop (mkF m 191 #[.val (.int p1), .val (.int p2), .val (.int 3), .val (.int x3), .val (.int x4), .val (.ref b101), .val (.ref xr)] [(.int 1)])) _
    refine XS.ifNo X110.here hx rfl (hb hby at_191) rfl ((if0 _ _).trans (feq (by decide : ¬ ((1 : Int32) = (0 : Int32)))).1) ?_
    refine XS.aload X110.here hx rfl (hb hby at_194) rfl rfl ?_
    refine XS.iconst X110.here hx rfl (hb hby at_196) ?_
    show Steps p.tables e below (T110.setTop (mkF m 197 #[.val (.int p1), .val (.int p2), .val (.int 3), .val (.int x3), .val (.int x4), .val (.ref b101), .val (.ref xr)] [(.int 1), (.ref xr)])) _
    refine XS.iloadN X110.here hx rfl (hb hby at_197) rfl ?_
    refine XS.iloadN X110.here hx rfl (hb hby at_198) rfl ?_
    show Steps p.tables e below (T110.setTop (mkF m 199 #[.val (.int p1), .val (.int p2), .val (.int 3), .val (.int x3), .val (.int x4), .val (.ref b101), .val (.ref xr)] [(.int p1), (.int 3), (.int 1), (.ref xr)])) _
    refine st111 _ ?_
    show Steps p.tables e below (T111.setTop (mkF m 202 #[.val (.int p1), .val (.int p2), .val (.int 3), .val (.int x3), .val (.int x4), .val (.ref b101), .val (.ref xr)] [(.int 1)])) _
    refine XS.ifNo X111.here hx rfl (hb hby at_202) rfl ((if0 _ _).trans (feq (by decide : ¬ ((1 : Int32) = (0 : Int32)))).1) ?_
    refine XS.aload X111.here hx rfl (hb hby at_205) rfl rfl ?_
    refine XS.iconst X111.here hx rfl (hb hby at_207) ?_
    show Steps p.tables e below (T111.setTop (mkF m 208 #[.val (.int p1), .val (.int p2), .val (.int 3), .val (.int x3), .val (.int x4), .val (.ref b101), .val (.ref xr)] [(.int 2), (.ref xr)])) _
    refine XS.iloadN X111.here hx rfl (hb hby at_208) rfl ?_
    refine XS.iloadN X111.here hx rfl (hb hby at_209) rfl ?_
    show Steps p.tables e below (T111.setTop (mkF m 210 #[.val (.int p1), .val (.int p2), .val (.int 3), .val (.int x3), .val (.int x4), .val (.ref b101), .val (.ref xr)] [(.int p1), (.int 3), (.int 2), (.ref xr)])) _
    refine st112 _ ?_
    show Steps p.tables e below (T112.setTop (mkF m 213 #[.val (.int p1), .val (.int p2), .val (.int 3), .val (.int x3), .val (.int x4), .val (.ref b101), .val (.ref xr)] [(.int 1)])) _
    refine XS.ifNo X112.here hx rfl (hb hby at_213) rfl ((if0 _ _).trans (feq (by decide : ¬ ((1 : Int32) = (0 : Int32)))).1) ?_
    refine XS.aload X112.here hx rfl (hb hby at_216) rfl rfl ?_
    refine XS.iconst X112.here hx rfl (hb hby at_218) ?_
    show Steps p.tables e below (T112.setTop (mkF m 219 #[.val (.int p1), .val (.int p2), .val (.int 3), .val (.int x3), .val (.int x4), .val (.ref b101), .val (.ref xr)] [(.int 3), (.ref xr)])) _
    refine XS.iloadN X112.here hx rfl (hb hby at_219) rfl ?_
    refine XS.iloadN X112.here hx rfl (hb hby at_220) rfl ?_
    show Steps p.tables e below (T112.setTop (mkF m 221 #[.val (.int p1), .val (.int p2), .val (.int 3), .val (.int x3), .val (.int x4), .val (.ref b101), .val (.ref xr)] [(.int p1), (.int 3), (.int 3), (.ref xr)])) _
    refine st113 _ ?_
    show Steps p.tables e below (T113.setTop (mkF m 224 #[.val (.int p1), .val (.int p2), .val (.int 3), .val (.int x3), .val (.int x4), .val (.ref b101), .val (.ref xr)] [(.int 1)])) _
    refine XS.ifNo X113.here hx rfl (hb hby at_224) rfl ((if0 _ _).trans (feq (by decide : ¬ ((1 : Int32) = (0 : Int32)))).1) ?_
    refine XS.aload X113.here hx rfl (hb hby at_227) rfl rfl ?_
    refine XS.iconst X113.here hx rfl (hb hby at_229) ?_
    show Steps p.tables e below (T113.setTop (mkF m 230 #[.val (.int p1), .val (.int p2), .val (.int 3), .val (.int x3), .val (.int x4), .val (.ref b101), .val (.ref xr)] [(.int 4), (.ref xr)])) _
    refine XS.iloadN X113.here hx rfl (hb hby at_230) rfl ?_
    refine XS.iloadN X113.here hx rfl (hb hby at_231) rfl ?_
    show Steps p.tables e below (T113.setTop (mkF m 232 #[.val (.int p1), .val (.int p2), .val (.int 3), .val (.int x3), .val (.int x4), .val (.ref b101), .val (.ref xr)] [(.int p1), (.int 3), (.int 4), (.ref xr)])) _
    refine st114 _ ?_
    show Steps p.tables e below (T114.setTop (mkF m 235 #[.val (.int p1), .val (.int p2), .val (.int 3), .val (.int x3), .val (.int x4), .val (.ref b101), .val (.ref xr)] [(.int 1)])) _
    refine XS.ifNo X114.here hx rfl (hb hby at_235) rfl ((if0 _ _).trans (feq (by decide : ¬ ((1 : Int32) = (0 : Int32)))).1) ?_
    refine XS.aload X114.here hx rfl (hb hby at_238) rfl rfl ?_
    refine XS.iconst X114.here hx rfl (hb hby at_240) ?_
    show Steps p.tables e below (T114.setTop (mkF m 241 #[.val (.int p1), .val (.int p2), .val (.int 3), .val (.int x3), .val (.int x4), .val (.ref b101), .val (.ref xr)] [(.int 5), (.ref xr)])) _
    refine XS.iloadN X114.here hx rfl (hb hby at_241) rfl ?_
    refine XS.iloadN X114.here hx rfl (hb hby at_242) rfl ?_
    show Steps p.tables e below (T114.setTop (mkF m 243 #[.val (.int p1), .val (.int p2), .val (.int 3), .val (.int x3), .val (.int x4), .val (.ref b101), .val (.ref xr)] [(.int p1), (.int 3), (.int 5), (.ref xr)])) _
    refine st115 _ ?_
    show Steps p.tables e below (T115.setTop (mkF m 246 #[.val (.int p1), .val (.int p2), .val (.int 3), .val (.int x3), .val (.int x4), .val (.ref b101), .val (.ref xr)] [(.int 1)])) _
    refine XS.ifNo X115.here hx rfl (hb hby at_246) rfl ((if0 _ _).trans (feq (by decide : ¬ ((1 : Int32) = (0 : Int32)))).1) ?_
    refine XS.iconst X115.here hx rfl (hb hby at_249) ?_
    refine XS.goto X115.here hx rfl (pc0 := 250) (pc' := 254) rfl (hb hby at_250) (by decide) (by decide) ?_
    show Steps p.tables e below (T115.setTop (mkF m 254 #[.val (.int p1), .val (.int p2), .val (.int 3), .val (.int x3), .val (.int x4), .val (.ref b101), .val (.ref xr)] [(.int 1)])) _
    exact retN X115 hx (t := .boolean) Bd.returns (by simp) (hb hby at_254) hr
  · show Q0 h0 n0 _ T115.heap _
    rw [e115]
    exact ⟨rfl, N115⟩
set_option maxRecDepth 65536 in
set_option maxHeartbeats 40000000 in
theorem sg2_400 (l : Launch) (Z : State) (a0 : Array Value) (hw : ∀ d ∈ tables_1, d.before a0 Z = true) (p1 p2 x3 x4 : Int32) (b : Addr) (kb : ClassId) (d0 d1 d2 d3 d4 d5 d6 d7 : Int32) {p : Program} {e : Env} {s : State} {m : MethodId} {args : Array Value} {below : List Frame} {meth : Method} {c : Code} {T0 : State} {L0 : List Loc} (h0 : Heap) (n0 : Nat) (O0 : Old Z n0 h0) (hx : p.tables.exec = Jvm.exec) (hby : c.code = code) (hml : c.maxLocals = 7) (hown : s.vm.findClass "io/roadcrew/resolve/VersionReaderMajorPinLaw" = some m.cls) (hZ : Z.Warmed39 s.vm) (X0 : Stand p l e room_1 s m args below meth c T0 L0 1 8) (e0 : T0.heap = h0) (N0 : Fr n0 L0) (K : Arv Z h0 b kb .char (8 : Int32) [(.int d0), (.int d1), (.int d2), (.int d3), (.int d4), (.int d5), (.int d6), (.int d7)] (.int (0 : Int32))) (gb : n0 ≤ b) (k3 : x3 = (0 : Int32)) (k4 : x4 = (0 : Int32)) :
    ∃ (T' : State) (h' : Heap) (L' : List Loc), Stand p l e room_1 s m args below meth c T' L' 1 8 ∧ T'.heap = h' ∧ Fr n0 L' ∧ Keep h0 h' [b] ∧ Arv Z h' b kb .char (8 : Int32) [(.int d0), (.int d1), (.int d2), (.int d3), (.int (46 : Int32)), (.int d5), (.int d6), (.int d7)] (.int (0 : Int32)) ∧ (∀ target, Steps p.tables e below (T'.setTop (mkF m 160 #[.val (.int p1), .val (.int p2), .val (.int 4), .val (.int x3), .val (.int x4), .val (.ref b), .unset] [])) target → Steps p.tables e below (T0.setTop (mkF m 119 #[.val (.int p1), .val (.int p2), .val (.int 4), .val (.int x3), .val (.int x4), .val (.ref b), .unset] [])) target) := by
  obtain ⟨cl_b_7, Ar_b_7, q_b_7, S_b_7, N_b_7, H_b_7, G_b_7⟩ := id (K)
  have hinb_7 : ¬ ((4 : Int32) < 0 ∨ cl_b_7.slots.size ≤ ((4 : Int32)).toNatClampNeg) := inb_of S_b_7 ⟨by decide, by decide⟩
  obtain ⟨T101, h101, X101, e101, W101, st101⟩ := stC X0 hx hZ e0 Ar_b_7 (j := (4 : Int32)) hinb_7 (g := (mkF m 124 #[.val (.int p1), .val (.int p2), .val (.int 4), .val (.int x3), .val (.int x4), .val (.ref b), .unset] [(.int 46), (.int 4), (.ref b)])) rfl rfl (hb hby at_124)
  have V_b_101 : Arv Z h101 b kb .char (8 : Int32) [(.int d0), (.int d1), (.int d2), (.int d3), (.int 46), (.int d5), (.int d6), (.int d7)] (.int 0) := Arv.set Ar_b_7 q_b_7 S_b_7 N_b_7 H_b_7 G_b_7 (fits_nar_char _) W101 4 rfl (Nat.le_of_ble_eq_true rfl)
  have O101 := O0.wr W101 gb
  have KK101 : Keep h0 h101 [b] := (Keep.refl h0 [b]).wr W101 (Or.inl (List.mem_of_getElem? (i := 0) rfl))
  have N101 := Fr.snoc X101 N0 gb
  refine ⟨_, _, _, X101, e101, N101, KK101, V_b_101, fun target k => ?_⟩
  show Steps p.tables e below (T0.setTop (mkF m 119 #[.val (.int p1), .val (.int p2), .val (.int 4), .val (.int x3), .val (.int x4), .val (.ref b), .unset] [])) _
  refine XS.aload X0.here hx rfl (hb hby at_119) rfl rfl ?_
  refine XS.iloadN X0.here hx rfl (hb hby at_121) rfl ?_
  refine XS.bipush X0.here hx rfl (hb hby at_122) ?_
  show Steps p.tables e below (T0.setTop (mkF m 124 #[.val (.int p1), .val (.int p2), .val (.int 4), .val (.int x3), .val (.int x4), .val (.ref b), .unset] [(.int 46), (.int 4), (.ref b)])) _
  refine st101 _ ?_
  show Steps p.tables e below (T101.setTop (mkF m 125 #[.val (.int p1), .val (.int p2), .val (.int 4), .val (.int x3), .val (.int x4), .val (.ref b), .unset] [])) _
  refine XS.iloadN X101.here hx rfl (hb hby at_125) rfl ?_
  refine XS.ifYes X101.here hx rfl (pc0 := 126) (pc' := 142) rfl (hb hby at_126) rfl ((if0 _ _).trans (teq k3).1) (by decide) (by decide) ?_
  refine XS.iload X101.here hx rfl (hb hby at_142) rfl ?_
  show Steps p.tables e below (T101.setTop (mkF m 144 #[.val (.int p1), .val (.int p2), .val (.int 4), .val (.int x3), .val (.int x4), .val (.ref b), .unset] [(.int x4)])) _
  refine XS.ifYes X101.here hx rfl (pc0 := 144) (pc' := 160) rfl (hb hby at_144) rfl ((if0 _ _).trans (teq k4).1) (by decide) (by decide) ?_
  exact k
set_option maxRecDepth 65536 in
set_option maxHeartbeats 40000000 in
theorem sg2_401 (l : Launch) (Z : State) (a0 : Array Value) (hw : ∀ d ∈ tables_1, d.before a0 Z = true) (p1 p2 x3 x4 : Int32) (b : Addr) (kb : ClassId) (d0 d1 d2 d3 d4 d5 d6 d7 : Int32) {p : Program} {e : Env} {s : State} {m : MethodId} {args : Array Value} {below : List Frame} {meth : Method} {c : Code} {T0 : State} {L0 : List Loc} (h0 : Heap) (n0 : Nat) (O0 : Old Z n0 h0) (hx : p.tables.exec = Jvm.exec) (hby : c.code = code) (hml : c.maxLocals = 7) (hown : s.vm.findClass "io/roadcrew/resolve/VersionReaderMajorPinLaw" = some m.cls) (hZ : Z.Warmed39 s.vm) (X0 : Stand p l e room_1 s m args below meth c T0 L0 1 8) (e0 : T0.heap = h0) (N0 : Fr n0 L0) (K : Arv Z h0 b kb .char (8 : Int32) [(.int d0), (.int d1), (.int d2), (.int d3), (.int d4), (.int d5), (.int d6), (.int d7)] (.int (0 : Int32))) (gb : n0 ≤ b) (k3 : x3 = (0 : Int32)) (k4 : ¬ (x4 = (0 : Int32))) :
    ∃ (T' : State) (h' : Heap) (L' : List Loc), Stand p l e room_1 s m args below meth c T' L' 1 8 ∧ T'.heap = h' ∧ Fr n0 L' ∧ Keep h0 h' [b] ∧ Arv Z h' b kb .char (8 : Int32) [(.int d0), (.int d1), (.int d2), (.int d3), (.int (46 : Int32)), (.int d5), (.int d6), (.int d7)] (.int (0 : Int32)) ∧ (∀ target, Steps p.tables e below (T'.setTop (mkF m 160 #[.val (.int p1), .val (.int p2), .val (.int 4), .val (.int x3), .val (.int x4), .val (.ref b), .unset] [])) target → Steps p.tables e below (T0.setTop (mkF m 119 #[.val (.int p1), .val (.int p2), .val (.int 4), .val (.int x3), .val (.int x4), .val (.ref b), .unset] [])) target) := by
  obtain ⟨cl_b_7, Ar_b_7, q_b_7, S_b_7, N_b_7, H_b_7, G_b_7⟩ := id (K)
  have hinb_7 : ¬ ((4 : Int32) < 0 ∨ cl_b_7.slots.size ≤ ((4 : Int32)).toNatClampNeg) := inb_of S_b_7 ⟨by decide, by decide⟩
  obtain ⟨T101, h101, X101, e101, W101, st101⟩ := stC X0 hx hZ e0 Ar_b_7 (j := (4 : Int32)) hinb_7 (g := (mkF m 124 #[.val (.int p1), .val (.int p2), .val (.int 4), .val (.int x3), .val (.int x4), .val (.ref b), .unset] [(.int 46), (.int 4), (.ref b)])) rfl rfl (hb hby at_124)
  have V_b_101 : Arv Z h101 b kb .char (8 : Int32) [(.int d0), (.int d1), (.int d2), (.int d3), (.int 46), (.int d5), (.int d6), (.int d7)] (.int 0) := Arv.set Ar_b_7 q_b_7 S_b_7 N_b_7 H_b_7 G_b_7 (fits_nar_char _) W101 4 rfl (Nat.le_of_ble_eq_true rfl)
  have O101 := O0.wr W101 gb
  have KK101 : Keep h0 h101 [b] := (Keep.refl h0 [b]).wr W101 (Or.inl (List.mem_of_getElem? (i := 0) rfl))
  have N101 := Fr.snoc X101 N0 gb
  refine ⟨_, _, _, X101, e101, N101, KK101, V_b_101, fun target k => ?_⟩
  show Steps p.tables e below (T0.setTop (mkF m 119 #[.val (.int p1), .val (.int p2), .val (.int 4), .val (.int x3), .val (.int x4), .val (.ref b), .unset] [])) _
  refine XS.aload X0.here hx rfl (hb hby at_119) rfl rfl ?_
  refine XS.iloadN X0.here hx rfl (hb hby at_121) rfl ?_
  refine XS.bipush X0.here hx rfl (hb hby at_122) ?_
  show Steps p.tables e below (T0.setTop (mkF m 124 #[.val (.int p1), .val (.int p2), .val (.int 4), .val (.int x3), .val (.int x4), .val (.ref b), .unset] [(.int 46), (.int 4), (.ref b)])) _
  refine st101 _ ?_
  show Steps p.tables e below (T101.setTop (mkF m 125 #[.val (.int p1), .val (.int p2), .val (.int 4), .val (.int x3), .val (.int x4), .val (.ref b), .unset] [])) _
  refine XS.iloadN X101.here hx rfl (hb hby at_125) rfl ?_
  refine XS.ifYes X101.here hx rfl (pc0 := 126) (pc' := 142) rfl (hb hby at_126) rfl ((if0 _ _).trans (teq k3).1) (by decide) (by decide) ?_
  refine XS.iload X101.here hx rfl (hb hby at_142) rfl ?_
  show Steps p.tables e below (T101.setTop (mkF m 144 #[.val (.int p1), .val (.int p2), .val (.int 4), .val (.int x3), .val (.int x4), .val (.ref b), .unset] [(.int x4)])) _
  refine XS.ifNo X101.here hx rfl (hb hby at_144) rfl ((if0 _ _).trans (feq k4).1) ?_
  refine XS.iloadN X101.here hx rfl (hb hby at_147) rfl ?_
  refine XS.iconst X101.here hx rfl (hb hby at_148) ?_
  show Steps p.tables e below (T101.setTop (mkF m 149 #[.val (.int p1), .val (.int p2), .val (.int 4), .val (.int x3), .val (.int x4), .val (.ref b), .unset] [(.int 2), (.int 4)])) _
  refine XS.icmpYes X101.here hx rfl (pc0 := 149) (pc' := 160) rfl (hb hby at_149) rfl (tlt (by decide : (2 : Int32) < (4 : Int32))).2.2.1 (by decide) (by decide) ?_
  exact k
set_option maxRecDepth 65536 in
set_option maxHeartbeats 40000000 in
theorem sg2_410 (l : Launch) (Z : State) (a0 : Array Value) (hw : ∀ d ∈ tables_1, d.before a0 Z = true) (p1 p2 x3 x4 : Int32) (b : Addr) (kb : ClassId) (d0 d1 d2 d3 d4 d5 d6 d7 : Int32) {p : Program} {e : Env} {s : State} {m : MethodId} {args : Array Value} {below : List Frame} {meth : Method} {c : Code} {T0 : State} {L0 : List Loc} (h0 : Heap) (n0 : Nat) (O0 : Old Z n0 h0) (hx : p.tables.exec = Jvm.exec) (hby : c.code = code) (hml : c.maxLocals = 7) (hown : s.vm.findClass "io/roadcrew/resolve/VersionReaderMajorPinLaw" = some m.cls) (hZ : Z.Warmed39 s.vm) (X0 : Stand p l e room_1 s m args below meth c T0 L0 1 8) (e0 : T0.heap = h0) (N0 : Fr n0 L0) (K : Arv Z h0 b kb .char (8 : Int32) [(.int d0), (.int d1), (.int d2), (.int d3), (.int d4), (.int d5), (.int d6), (.int d7)] (.int (0 : Int32))) (gb : n0 ≤ b) (k3 : ¬ (x3 = (0 : Int32))) (k4 : x4 = (0 : Int32)) :
    ∃ (T' : State) (h' : Heap) (L' : List Loc), Stand p l e room_1 s m args below meth c T' L' 1 8 ∧ T'.heap = h' ∧ Fr n0 L' ∧ Keep h0 h' [b] ∧ Arv Z h' b kb .char (8 : Int32) [(.int d0), (.int d1), (.int d2), (.int d3), (.int (46 : Int32)), (.int d5), (.int (46 : Int32)), (.int d7)] (.int (0 : Int32)) ∧ (∀ target, Steps p.tables e below (T'.setTop (mkF m 160 #[.val (.int p1), .val (.int p2), .val (.int 4), .val (.int x3), .val (.int x4), .val (.ref b), .unset] [])) target → Steps p.tables e below (T0.setTop (mkF m 119 #[.val (.int p1), .val (.int p2), .val (.int 4), .val (.int x3), .val (.int x4), .val (.ref b), .unset] [])) target) := by
  obtain ⟨cl_b_7, Ar_b_7, q_b_7, S_b_7, N_b_7, H_b_7, G_b_7⟩ := id (K)
  have hinb_7 : ¬ ((4 : Int32) < 0 ∨ cl_b_7.slots.size ≤ ((4 : Int32)).toNatClampNeg) := inb_of S_b_7 ⟨by decide, by decide⟩
  obtain ⟨T101, h101, X101, e101, W101, st101⟩ := stC X0 hx hZ e0 Ar_b_7 (j := (4 : Int32)) hinb_7 (g := (mkF m 124 #[.val (.int p1), .val (.int p2), .val (.int 4), .val (.int x3), .val (.int x4), .val (.ref b), .unset] [(.int 46), (.int 4), (.ref b)])) rfl rfl (hb hby at_124)
  have V_b_101 : Arv Z h101 b kb .char (8 : Int32) [(.int d0), (.int d1), (.int d2), (.int d3), (.int 46), (.int d5), (.int d6), (.int d7)] (.int 0) := Arv.set Ar_b_7 q_b_7 S_b_7 N_b_7 H_b_7 G_b_7 (fits_nar_char _) W101 4 rfl (Nat.le_of_ble_eq_true rfl)
  have O101 := O0.wr W101 gb
  have KK101 : Keep h0 h101 [b] := (Keep.refl h0 [b]).wr W101 (Or.inl (List.mem_of_getElem? (i := 0) rfl))
  have N101 := Fr.snoc X101 N0 gb
  obtain ⟨cl_b_30, Ar_b_30, q_b_30, S_b_30, N_b_30, H_b_30, G_b_30⟩ := id (V_b_101)
  have hinb_30 : ¬ ((6 : Int32) < 0 ∨ cl_b_30.slots.size ≤ ((6 : Int32)).toNatClampNeg) := inb_of S_b_30 ⟨by decide, by decide⟩
  obtain ⟨T102, h102, X102, e102, W102, st102⟩ := stC X101 hx hZ e101 Ar_b_30 (j := (6 : Int32)) hinb_30 (g := (mkF m 141 #[.val (.int p1), .val (.int p2), .val (.int 4), .val (.int x3), .val (.int x4), .val (.ref b), .unset] [(.int 46), (.int 6), (.ref b)])) rfl rfl (hb hby at_141)
  have V_b_102 : Arv Z h102 b kb .char (8 : Int32) [(.int d0), (.int d1), (.int d2), (.int d3), (.int 46), (.int d5), (.int 46), (.int d7)] (.int 0) := Arv.set Ar_b_30 q_b_30 S_b_30 N_b_30 H_b_30 G_b_30 (fits_nar_char _) W102 6 rfl (Nat.le_of_ble_eq_true rfl)
  have O102 := O101.wr W102 gb
  have KK102 : Keep h0 h102 [b] := KK101.wr W102 (Or.inl (List.mem_of_getElem? (i := 0) rfl))
  have N102 := Fr.snoc X102 N101 gb
  refine ⟨_, _, _, X102, e102, N102, KK102, V_b_102, fun target k => ?_⟩
  show Steps p.tables e below (T0.setTop (mkF m 119 #[.val (.int p1), .val (.int p2), .val (.int 4), .val (.int x3), .val (.int x4), .val (.ref b), .unset] [])) _
  refine XS.aload X0.here hx rfl (hb hby at_119) rfl rfl ?_
  refine XS.iloadN X0.here hx rfl (hb hby at_121) rfl ?_
  refine XS.bipush X0.here hx rfl (hb hby at_122) ?_
  show Steps p.tables e below (T0.setTop (mkF m 124 #[.val (.int p1), .val (.int p2), .val (.int 4), .val (.int x3), .val (.int x4), .val (.ref b), .unset] [(.int 46), (.int 4), (.ref b)])) _
  refine st101 _ ?_
  show Steps p.tables e below (T101.setTop (mkF m 125 #[.val (.int p1), .val (.int p2), .val (.int 4), .val (.int x3), .val (.int x4), .val (.ref b), .unset] [])) _
  refine XS.iloadN X101.here hx rfl (hb hby at_125) rfl ?_
  refine XS.ifNo X101.here hx rfl (hb hby at_126) rfl ((if0 _ _).trans (feq k3).1) ?_
  refine XS.iloadN X101.here hx rfl (hb hby at_129) rfl ?_
  show Steps p.tables e below (T101.setTop (mkF m 130 #[.val (.int p1), .val (.int p2), .val (.int 4), .val (.int x3), .val (.int x4), .val (.ref b), .unset] [(.int 4)])) _
  refine XS.iconst X101.here hx rfl (hb hby at_130) ?_
  refine XS.icmpNo X101.here hx rfl (hb hby at_131) rfl (flt (by decide : ¬ ((4 : Int32) < (4 : Int32)))).2.2.1 ?_
  refine XS.aload X101.here hx rfl (hb hby at_134) rfl rfl ?_
  show Steps p.tables e below (T101.setTop (mkF m 136 #[.val (.int p1), .val (.int p2), .val (.int 4), .val (.int x3), .val (.int x4), .val (.ref b), .unset] [(.ref b)])) _
  refine XS.iloadN X101.here hx rfl (hb hby at_136) rfl ?_
  refine XS.iconst X101.here hx rfl (hb hby at_137) ?_
  show Steps p.tables e below (T101.setTop (mkF m 138 #[.val (.int p1), .val (.int p2), .val (.int 4), .val (.int x3), .val (.int x4), .val (.ref b), .unset] [(.int 2), (.int 4), (.ref b)])) _
  refine XS.iadd X101.here hx rfl (hb hby at_138) rfl ?_
  rw [show ((4 : Int32) + (2 : Int32)) = (6 : Int32) from by decide]
  show Steps p.tables e below (T101.setTop (mkF m 139 #[.val (.int p1), .val (.int p2), .val (.int 4), .val (.int x3), .val (.int x4), .val (.ref b), .unset] [(.int 6), (.ref b)])) _
  refine XS.bipush X101.here hx rfl (hb hby at_139) ?_
  show Steps p.tables e below (T101.setTop (mkF m 141 #[.val (.int p1), .val (.int p2), .val (.int 4), .val (.int x3), .val (.int x4), .val (.ref b), .unset] [(.int 46), (.int 6), (.ref b)])) _
  refine st102 _ ?_
  show Steps p.tables e below (T102.setTop (mkF m 142 #[.val (.int p1), .val (.int p2), .val (.int 4), .val (.int x3), .val (.int x4), .val (.ref b), .unset] [])) _
  refine XS.iload X102.here hx rfl (hb hby at_142) rfl ?_
  refine XS.ifYes X102.here hx rfl (pc0 := 144) (pc' := 160) rfl (hb hby at_144) rfl ((if0 _ _).trans (teq k4).1) (by decide) (by decide) ?_
  exact k
set_option maxRecDepth 65536 in
set_option maxHeartbeats 40000000 in
theorem sg2_411 (l : Launch) (Z : State) (a0 : Array Value) (hw : ∀ d ∈ tables_1, d.before a0 Z = true) (p1 p2 x3 x4 : Int32) (b : Addr) (kb : ClassId) (d0 d1 d2 d3 d4 d5 d6 d7 : Int32) {p : Program} {e : Env} {s : State} {m : MethodId} {args : Array Value} {below : List Frame} {meth : Method} {c : Code} {T0 : State} {L0 : List Loc} (h0 : Heap) (n0 : Nat) (O0 : Old Z n0 h0) (hx : p.tables.exec = Jvm.exec) (hby : c.code = code) (hml : c.maxLocals = 7) (hown : s.vm.findClass "io/roadcrew/resolve/VersionReaderMajorPinLaw" = some m.cls) (hZ : Z.Warmed39 s.vm) (X0 : Stand p l e room_1 s m args below meth c T0 L0 1 8) (e0 : T0.heap = h0) (N0 : Fr n0 L0) (K : Arv Z h0 b kb .char (8 : Int32) [(.int d0), (.int d1), (.int d2), (.int d3), (.int d4), (.int d5), (.int d6), (.int d7)] (.int (0 : Int32))) (gb : n0 ≤ b) (k3 : ¬ (x3 = (0 : Int32))) (k4 : ¬ (x4 = (0 : Int32))) :
    ∃ (T' : State) (h' : Heap) (L' : List Loc), Stand p l e room_1 s m args below meth c T' L' 1 8 ∧ T'.heap = h' ∧ Fr n0 L' ∧ Keep h0 h' [b] ∧ Arv Z h' b kb .char (8 : Int32) [(.int d0), (.int d1), (.int d2), (.int d3), (.int (46 : Int32)), (.int d5), (.int (46 : Int32)), (.int d7)] (.int (0 : Int32)) ∧ (∀ target, Steps p.tables e below (T'.setTop (mkF m 160 #[.val (.int p1), .val (.int p2), .val (.int 4), .val (.int x3), .val (.int x4), .val (.ref b), .unset] [])) target → Steps p.tables e below (T0.setTop (mkF m 119 #[.val (.int p1), .val (.int p2), .val (.int 4), .val (.int x3), .val (.int x4), .val (.ref b), .unset] [])) target) := by
  obtain ⟨cl_b_7, Ar_b_7, q_b_7, S_b_7, N_b_7, H_b_7, G_b_7⟩ := id (K)
  have hinb_7 : ¬ ((4 : Int32) < 0 ∨ cl_b_7.slots.size ≤ ((4 : Int32)).toNatClampNeg) := inb_of S_b_7 ⟨by decide, by decide⟩
  obtain ⟨T101, h101, X101, e101, W101, st101⟩ := stC X0 hx hZ e0 Ar_b_7 (j := (4 : Int32)) hinb_7 (g := (mkF m 124 #[.val (.int p1), .val (.int p2), .val (.int 4), .val (.int x3), .val (.int x4), .val (.ref b), .unset] [(.int 46), (.int 4), (.ref b)])) rfl rfl (hb hby at_124)
  have V_b_101 : Arv Z h101 b kb .char (8 : Int32) [(.int d0), (.int d1), (.int d2), (.int d3), (.int 46), (.int d5), (.int d6), (.int d7)] (.int 0) := Arv.set Ar_b_7 q_b_7 S_b_7 N_b_7 H_b_7 G_b_7 (fits_nar_char _) W101 4 rfl (Nat.le_of_ble_eq_true rfl)
  have O101 := O0.wr W101 gb
  have KK101 : Keep h0 h101 [b] := (Keep.refl h0 [b]).wr W101 (Or.inl (List.mem_of_getElem? (i := 0) rfl))
  have N101 := Fr.snoc X101 N0 gb
  obtain ⟨cl_b_30, Ar_b_30, q_b_30, S_b_30, N_b_30, H_b_30, G_b_30⟩ := id (V_b_101)
  have hinb_30 : ¬ ((6 : Int32) < 0 ∨ cl_b_30.slots.size ≤ ((6 : Int32)).toNatClampNeg) := inb_of S_b_30 ⟨by decide, by decide⟩
  obtain ⟨T102, h102, X102, e102, W102, st102⟩ := stC X101 hx hZ e101 Ar_b_30 (j := (6 : Int32)) hinb_30 (g := (mkF m 141 #[.val (.int p1), .val (.int p2), .val (.int 4), .val (.int x3), .val (.int x4), .val (.ref b), .unset] [(.int 46), (.int 6), (.ref b)])) rfl rfl (hb hby at_141)
  have V_b_102 : Arv Z h102 b kb .char (8 : Int32) [(.int d0), (.int d1), (.int d2), (.int d3), (.int 46), (.int d5), (.int 46), (.int d7)] (.int 0) := Arv.set Ar_b_30 q_b_30 S_b_30 N_b_30 H_b_30 G_b_30 (fits_nar_char _) W102 6 rfl (Nat.le_of_ble_eq_true rfl)
  have O102 := O101.wr W102 gb
  have KK102 : Keep h0 h102 [b] := KK101.wr W102 (Or.inl (List.mem_of_getElem? (i := 0) rfl))
  have N102 := Fr.snoc X102 N101 gb
  refine ⟨_, _, _, X102, e102, N102, KK102, V_b_102, fun target k => ?_⟩
  show Steps p.tables e below (T0.setTop (mkF m 119 #[.val (.int p1), .val (.int p2), .val (.int 4), .val (.int x3), .val (.int x4), .val (.ref b), .unset] [])) _
  refine XS.aload X0.here hx rfl (hb hby at_119) rfl rfl ?_
  refine XS.iloadN X0.here hx rfl (hb hby at_121) rfl ?_
  refine XS.bipush X0.here hx rfl (hb hby at_122) ?_
  show Steps p.tables e below (T0.setTop (mkF m 124 #[.val (.int p1), .val (.int p2), .val (.int 4), .val (.int x3), .val (.int x4), .val (.ref b), .unset] [(.int 46), (.int 4), (.ref b)])) _
  refine st101 _ ?_
  show Steps p.tables e below (T101.setTop (mkF m 125 #[.val (.int p1), .val (.int p2), .val (.int 4), .val (.int x3), .val (.int x4), .val (.ref b), .unset] [])) _
  refine XS.iloadN X101.here hx rfl (hb hby at_125) rfl ?_
  refine XS.ifNo X101.here hx rfl (hb hby at_126) rfl ((if0 _ _).trans (feq k3).1) ?_
  refine XS.iloadN X101.here hx rfl (hb hby at_129) rfl ?_
  show Steps p.tables e below (T101.setTop (mkF m 130 #[.val (.int p1), .val (.int p2), .val (.int 4), .val (.int x3), .val (.int x4), .val (.ref b), .unset] [(.int 4)])) _
  refine XS.iconst X101.here hx rfl (hb hby at_130) ?_
  refine XS.icmpNo X101.here hx rfl (hb hby at_131) rfl (flt (by decide : ¬ ((4 : Int32) < (4 : Int32)))).2.2.1 ?_
  refine XS.aload X101.here hx rfl (hb hby at_134) rfl rfl ?_
  show Steps p.tables e below (T101.setTop (mkF m 136 #[.val (.int p1), .val (.int p2), .val (.int 4), .val (.int x3), .val (.int x4), .val (.ref b), .unset] [(.ref b)])) _
  refine XS.iloadN X101.here hx rfl (hb hby at_136) rfl ?_
  refine XS.iconst X101.here hx rfl (hb hby at_137) ?_
  show Steps p.tables e below (T101.setTop (mkF m 138 #[.val (.int p1), .val (.int p2), .val (.int 4), .val (.int x3), .val (.int x4), .val (.ref b), .unset] [(.int 2), (.int 4), (.ref b)])) _
  refine XS.iadd X101.here hx rfl (hb hby at_138) rfl ?_
  rw [show ((4 : Int32) + (2 : Int32)) = (6 : Int32) from by decide]
  show Steps p.tables e below (T101.setTop (mkF m 139 #[.val (.int p1), .val (.int p2), .val (.int 4), .val (.int x3), .val (.int x4), .val (.ref b), .unset] [(.int 6), (.ref b)])) _
  refine XS.bipush X101.here hx rfl (hb hby at_139) ?_
  show Steps p.tables e below (T101.setTop (mkF m 141 #[.val (.int p1), .val (.int p2), .val (.int 4), .val (.int x3), .val (.int x4), .val (.ref b), .unset] [(.int 46), (.int 6), (.ref b)])) _
  refine st102 _ ?_
  show Steps p.tables e below (T102.setTop (mkF m 142 #[.val (.int p1), .val (.int p2), .val (.int 4), .val (.int x3), .val (.int x4), .val (.ref b), .unset] [])) _
  refine XS.iload X102.here hx rfl (hb hby at_142) rfl ?_
  refine XS.ifNo X102.here hx rfl (hb hby at_144) rfl ((if0 _ _).trans (feq k4).1) ?_
  refine XS.iloadN X102.here hx rfl (hb hby at_147) rfl ?_
  show Steps p.tables e below (T102.setTop (mkF m 148 #[.val (.int p1), .val (.int p2), .val (.int 4), .val (.int x3), .val (.int x4), .val (.ref b), .unset] [(.int 4)])) _
  refine XS.iconst X102.here hx rfl (hb hby at_148) ?_
  refine XS.icmpYes X102.here hx rfl (pc0 := 149) (pc' := 160) rfl (hb hby at_149) rfl (tlt (by decide : (2 : Int32) < (4 : Int32))).2.2.1 (by decide) (by decide) ?_
  exact k
theorem sg2_4 (l : Launch) (Z : State) (a0 : Array Value) (hw : ∀ d ∈ tables_1, d.before a0 Z = true) (p1 p2 x3 x4 f2 f4 : Int32) (b : Addr) (kb : ClassId) (d0 d1 d2 d3 d4 d5 d6 d7 : Int32) {p : Program} {e : Env} {s : State} {m : MethodId} {args : Array Value} {below : List Frame} {meth : Method} {c : Code} {T0 : State} {L0 : List Loc} (h0 : Heap) (n0 : Nat) (O0 : Old Z n0 h0) (hx : p.tables.exec = Jvm.exec) (hby : c.code = code) (hml : c.maxLocals = 7) (hown : s.vm.findClass "io/roadcrew/resolve/VersionReaderMajorPinLaw" = some m.cls) (hZ : Z.Warmed39 s.vm) (X0 : Stand p l e room_1 s m args below meth c T0 L0 1 8) (e0 : T0.heap = h0) (N0 : Fr n0 L0) (K : Arv Z h0 b kb .char (8 : Int32) [(.int d0), (.int d1), (.int d2), (.int d3), (.int d4), (.int d5), (.int d6), (.int d7)] (.int (0 : Int32))) (gb : n0 ≤ b) (hf2 : f2 = if x3 = (0 : Int32) then d6 else (46 : Int32)) :
    ∃ (T' : State) (h' : Heap) (L' : List Loc), Stand p l e room_1 s m args below meth c T' L' 1 8 ∧ T'.heap = h' ∧ Fr n0 L' ∧ Keep h0 h' [b] ∧ Arv Z h' b kb .char (8 : Int32) [(.int d0), (.int d1), (.int d2), (.int d3), (.int (46 : Int32)), (.int d5), (.int f2), (.int d7)] (.int (0 : Int32)) ∧ (∀ target, Steps p.tables e below (T'.setTop (mkF m 160 #[.val (.int p1), .val (.int p2), .val (.int 4), .val (.int x3), .val (.int x4), .val (.ref b), .unset] [])) target → Steps p.tables e below (T0.setTop (mkF m 119 #[.val (.int p1), .val (.int p2), .val (.int 4), .val (.int x3), .val (.int x4), .val (.ref b), .unset] [])) target) := by
  by_cases k3 : x3 = (0 : Int32)
  · rw [if_pos k3] at hf2; rw [hf2]
    by_cases k4 : x4 = (0 : Int32)
    · exact sg2_400 l Z a0 hw p1 p2 x3 x4 b kb d0 d1 d2 d3 d4 d5 d6 d7 h0 n0 O0 hx hby hml hown hZ X0 e0 N0 K gb k3 k4
    · exact sg2_401 l Z a0 hw p1 p2 x3 x4 b kb d0 d1 d2 d3 d4 d5 d6 d7 h0 n0 O0 hx hby hml hown hZ X0 e0 N0 K gb k3 k4
  · rw [if_neg k3] at hf2; rw [hf2]
    by_cases k4 : x4 = (0 : Int32)
    · exact sg2_410 l Z a0 hw p1 p2 x3 x4 b kb d0 d1 d2 d3 d4 d5 d6 d7 h0 n0 O0 hx hby hml hown hZ X0 e0 N0 K gb k3 k4
    · exact sg2_411 l Z a0 hw p1 p2 x3 x4 b kb d0 d1 d2 d3 d4 d5 d6 d7 h0 n0 O0 hx hby hml hown hZ X0 e0 N0 K gb k3 k4
set_option maxRecDepth 65536 in
set_option maxHeartbeats 40000000 in
theorem rm0_4 (l : Launch) (Z : State) (a0 : Array Value) (hw : ∀ d ∈ tables_1, d.before a0 Z = true) (ws : List Jvm.Cond) (p1 p2 : Int32) (G1 : Int32) (G3 : Value) (x3 x4 f2 f4 : Int32) (d0 d1 d2 d3 d4 d5 d6 d7 : Int32) (h0 : Heap) (n0 : Nat) (O0 : Old Z n0 h0) (S_CS : Sta Z Z.heap "java/lang/String" "COMPACT_STRINGS" "Z" (.int G1)) (hG1 : ¬ (G1 = (0 : Int32))) (S_SF : Sta Z Z.heap "jdk/internal/util/Preconditions" "SIOOBE_FORMATTER" "Ljava/util/function/BiFunction;" G3) (rG3 : G3.isRef = true) (hd0 : d0 = dig p1 (0 : Int32)) (hd1 : d1 = dig p1 (1 : Int32)) (hd2 : d2 = dig p1 (2 : Int32)) (hd3 : d3 = dig p1 (3 : Int32)) (hd4 : d4 = dig p1 (4 : Int32)) (hd5 : d5 = dig p1 (5 : Int32)) (hd6 : d6 = dig p1 (6 : Int32)) (hd7 : d7 = dig p1 (7 : Int32)) (h3 : x3 = if (p2 &&& (8 : Int32)) = (0 : Int32) then (0 : Int32) else (1 : Int32)) (h4 : x4 = if (p2 &&& (16 : Int32)) = (0 : Int32) then (0 : Int32) else (1 : Int32)) (hf2 : f2 = if x3 = (0 : Int32) then d6 else (46 : Int32)) (hg2 : ¬ f2 < 0 ∧ ¬ (255 : Int32) < f2) (hm : ((irm (p2 &&& (7 : Int32)) (6 : Int32)) + (1 : Int32)) = (4 : Int32)) :
    MetFree l x (head1 (Jvm.Cond.code x code maxLocals ret :: ws) room_1) (fun a_ U => a_ = #[(.int p1), (.int p2)] ∧ Z.Warmed39 U.vm ∧ U.heap = h0) (fun _ _ _ _ _ => True) (fun _ U o U' => ∃ v L, o = .returned v ∧ Q0 h0 n0 v U'.heap L ∧ FrameEnd U o U' L room_1.cells room_1.slots) := by
  refine MetFree.of_bodySF (plainFor_of_name pn_0) hisR ?_
  intro p e s m args below meth c s₁ Bd hml0 hP hK
  obtain ⟨rfl, hZ, hh⟩ := hP
  have hx := Bd.exec
  have hby := Bd.bytes
  have hml : c.maxLocals = 7 := hml0
  have hown : s.vm.findClass "io/roadcrew/resolve/VersionReaderMajorPinLaw" = some m.cls := findClass_of_methodNamed Bd.named
  have hnm := (name_of_methodNamed Bd.named Bd.method).1
  have X0 : Stand p l e room_1 s m #[(.int p1), (.int p2)] below meth c s₁ [] 0 0 := Stand.of_body Bd
  have e0 : s₁.heap = h0 := by rw [← hh, Bd.state]; rfl
  have N0 := Fr.nil n0
  have pre0 : ∀ tg, Steps p.tables e below (s₁.setTop (mkF m 0 #[.val (.int p1), .val (.int p2), .unset, .unset, .unset, .unset, .unset] [])) tg → Steps p.tables e below (s₁.setTop (entryFrame m #[(.int p1), (.int p2)] maxLocals)) tg := fun tg kq => castTop (ef_II_7m m p1 p2) kq
  obtain ⟨T101, h101, L101, b101, kb101, X101, e101, Ns101, K101, szb101, Vb101, st101⟩ := sg1 l Z a0 hw p1 p2 (4 : Int32) x3 x4 d0 d1 d2 d3 d4 d5 d6 d7 h0 n0 O0 hx hby hml hown hZ X0 e0 N0 hd0 hd1 hd2 hd3 hd4 hd5 hd6 hd7
  have g_b101 : n0 ≤ b101 := Nat.le_trans (O0.1 ▸ O0.2.1) szb101
  have sz_b101 : h0.size ≤ b101 := Nat.le_trans (Nat.le_refl _) szb101
  have O101 := O0.keep K101 all0
  have KK101 : Keep h0 h101 [] := (Keep.refl h0 []).trans K101 all0
  obtain ⟨T102, h102, L102, X102, e102, Ns102, K102, Vc102, st102⟩ := sg2_4 l Z a0 hw p1 p2 x3 x4 f2 f4 b101 kb101 d0 d1 d2 d3 d4 d5 d6 d7 h101 n0 O101 hx hby hml hown hZ X101 e101 Ns101 Vb101 g_b101 hf2
  have O102 := O101.keep K102 (allS g_b101 all0)
  have KK102 : Keep h0 h102 [] := KK101.trans K102 (allS (Or.inr sz_b101) all0)
  obtain ⟨T103, h103, X103, e103, E103, A103, D103, -, st103⟩ := newO X102 hx hZ hown (wi hw 5 rfl) (wi hw 6 rfl) (wi hw 7 rfl) e102 (g := (mkF m 160 #[.val (.int p1), .val (.int p2), .val (.int 4), .val (.int x3), .val (.int x4), .val (.ref b101), .unset] [])) rfl (hb hby at_160) (by decide) (by decide)
  obtain ⟨b103, g103⟩ : ∃ z, z = h102.size := ⟨_, rfl⟩
  rw [← g103] at A103 D103 st103
  have g_b103 : n0 ≤ b103 := Nat.le_trans (O102.1 ▸ O102.2.1) (Nat.le_of_eq g103.symm)
  have sz_b103 : h0.size ≤ b103 := Nat.le_trans KK102.1 (Nat.le_of_eq g103.symm)
  have O103 := O102.ext E103
  have KK103 : Keep h0 h103 [] := KK102.ext E103
  have F_coder_b103 : Fld Z h103 b103 "java/lang/String" "coder" "B" (.int 0) := D103 (Or.inr (wi hw 31 rfl)) (ty := .byte) (by decide)
  have F_value_b103 : Fld Z h103 b103 "java/lang/String" "value" "[B" .null := D103 (Or.inr (wi hw 33 rfl)) (ty := (.array .byte)) (by decide)
  have fV_b101_3_104 := (Vc102.ext E103)
  have shp105 : ∀ c ∈ ([d0, d1, d2, d3, (46 : Int32), d5, f2, d7] : List Int32), ¬ c < 0 ∧ ¬ (255 : Int32) < c := (own_memS (own_dd hd0).1 (own_memS (own_dd hd1).1 (own_memS (own_dd hd2).1 (own_memS (own_dd hd3).1 (own_memS (by decide) (own_memS (own_dd hd5).1 (own_memS hg2 (own_memS (own_dd hd7).1 own_mem0))))))))
  have sA105 : Arv Z h103 b101 kb101 .char (8 : Int32) (([d0, d1, d2, d3, (46 : Int32), d5, f2, d7] : List Int32).map Value.int) (.int (0 : Int32)) := fV_b101_3_104
  obtain ⟨_, _, ⟨T106, L106, k106, n106⟩, -, X106, ⟨Lc106, hQ106, l106, y106, z106⟩, st106⟩ := X103.specialBack hx (y := y2) rfl hown (mvT hZ (wi hw 8 rfl)) (mvT hZ (wi hw 9 rfl)) (mvT hZ (wi hw 10 rfl)) (by decide) (StrChars.Road.backV (W := 1) hZ (fun d hd => hw d (own_w_backV d hd)) (kI := 4) (wi hw 6 rfl) (cs := ([d0, d1, d2, d3, (46 : Int32), d5, f2, d7] : List Int32)) (bs := ([d0, d1, d2, d3, (46 : Int32), d5, f2, d7] : List Int32).map (fun c => c.toInt8.toInt32)) (n := 8) g_b103 (O103.1 ▸ O103.2.1) A103 F_value_b103 F_coder_b103 sA105 (S_CS.ext O103.2) hG1 rfl rfl (by decide) (by decide) shp105 rfl (by decide) (by decide)) (g := (mkF m 166 #[.val (.int p1), .val (.int p2), .val (.int 4), .val (.int x3), .val (.int x4), .val (.ref b101), .unset] [(.ref b101), (.ref b103), (.ref b103)])) rfl (by rw [hml]; rfl) (Steps.refl _) (a := b103) (argsL := [(.ref b101)]) (rest := [(.ref b103)]) (lenOf pd_15 rfl) rfl (by show 2 * 0 + _ ≤ _; exact Nat.le_of_eq rfl) (hb hby at_166) (fun _ _ => ⟨rfl, e103, (by decide : 2 + 1 ≤ _), (by decide : 12 + 8 ≤ _)⟩)
  dsimp only [Pt.U, Pt.locs, Pt.cells, Pt.slots] at X106 l106 y106 z106 st106 hQ106
  subst l106 y106 z106
  obtain ⟨rfl, N106q, K106, sE105, sC105, t105, kb105, sg105, ssz105, sne105, sV105, sK105⟩ := hQ106
  obtain ⟨h106, e106⟩ : ∃ z, T106.heap = z := ⟨_, rfl⟩
  rw [e106] at K106 sE105 sC105 sV105 sK105
  have g_t105 : n0 ≤ t105 := Nat.le_trans (O103.1 ▸ O103.2.1) ssz105
  have sz_t105 : h0.size ≤ t105 := Nat.le_trans KK103.1 ssz105
  have O106 := O103.keep K106 (allS g_b103 all0)
  have KK106 : Keep h0 h106 [] := KK103.trans K106 (allS (Or.inr sz_b103) all0)
  have N106 := Fr.app Ns102 N106q
  have scd105 : StrChars.Road.CodA ([d0, d1, d2, d3, (46 : Int32), d5, f2, d7] : List Int32) 0 (8 : Int32) ((([d0, d1, d2, d3, (46 : Int32), d5, f2, d7] : List Int32).map (fun c => c.toInt8.toInt32)).map Value.int) := StrChars.Road.codOf (n := 8) rfl (fun c hc => (shp105 c hc).2)
  obtain ⟨_, _, ⟨T108, L108, k108, n108⟩, -, X108, ⟨Lc108, hQ108, l108, y108, z108⟩, st108⟩ := Jvm.LawKit.callS X106 hx (y := y8) hown (mvT hZ (wi hw 34 rfl)) (mvT hZ (wi hw 35 rfl)) (mvT hZ (wi hw 36 rfl)) (mvT hZ (wi hw 37 rfl)) (by decide) (backOf (W := 0) (rmM l Z a0 hw [] G1 G3 b103 (4 : Int32) 4 ([d0, d1, d2, d3, (46 : Int32), d5, f2, d7] : List Int32) ([d0, d1, d2, d3] : List Int32) h106 n0 O106 S_CS hG1 S_SF rG3 ⟨_, _, _, _, sE105, sV105, sC105, sK105, scd105, shp105, (Nat.le_of_ble_eq_true rfl)⟩ rfl ⟨(StrChars.lo8 d0), (StrChars.lo8 d1), (StrChars.lo8 d2), (StrChars.lo8 d3), (StrChars.lo8 (46 : Int32)), (StrChars.lo8 d5), (StrChars.lo8 f2), (StrChars.lo8 d7), Or.inr (Or.inr (Or.inr (Or.inl ⟨rfl, rfl, (own_dd hd0).2, (own_dd hd1).2, (own_dd hd2).2, (own_dd hd3).2⟩)))⟩ ⟨by decide, by decide, by decide, by decide, by decide, by decide, by decide, rfl⟩ rfl (own_memS (own_dd hd0).1 (own_memS (own_dd hd1).1 (own_memS (own_dd hd2).1 (own_memS (own_dd hd3).1 own_mem0)))) (Nat.le_of_ble_eq_true rfl)) hZ (wi hw 37 rfl) (wi hw 36 rfl) (by decide) (by decide)) (g := (mkF m 169 #[.val (.int p1), .val (.int p2), .val (.int 4), .val (.int x3), .val (.int x4), .val (.ref b101), .unset] [(.ref b103)])) rfl (by rw [hml]; rfl) (argsL := [(.ref b103)]) (rest := []) (lenOf pd_16 rfl) rfl (by show 2 * 0 + _ ≤ _; exact Nat.le_of_eq rfl) (hb hby at_169) (fun _ _ => ⟨rfl, e106, (by decide : 3 + 2 ≤ _), (by decide : 20 + 12 ≤ _)⟩)
  dsimp only [Pt.U, Pt.locs, Pt.cells, Pt.slots] at X108 l108 y108 z108 st108 hQ108
  subst l108 y108 z108
  obtain ⟨xr, rfl, N108q, K108, szx108, T108q⟩ := hQ108
  obtain ⟨h108, e108⟩ : ∃ z, T108.heap = z := ⟨_, rfl⟩
  rw [e108] at K108 T108q
  obtain ⟨tr107, kbr107, Nr107, vsr107, sEr107, sVr107, sCr107, sKr107, scdr107, shpr107, shlr107⟩ := id T108q
  have g_xr : n0 ≤ xr := Nat.le_trans (O106.1 ▸ O106.2.1) szx108
  have sz_xr : h0.size ≤ xr := Nat.le_trans KK106.1 szx108
  have O108 := O106.keep K108 all0
  have KK108 : Keep h0 h108 [] := KK106.trans K108 all0
  have N108 := Fr.app N106 N108q
  obtain ⟨cq109, kq109, q109a, q109b, q109c⟩ := isOf hZ e108 sEr107
  obtain ⟨_, _, ⟨T109, L109, k109, n109⟩, -, X109, ⟨Lc109, hQ109, l109, y109, z109⟩, st109⟩ := X108.virtualBack hx (y := y12) (z := y12) hown (mvT hZ (wi hw 115 rfl)) (mvT hZ (wi hw 54 rfl)) (notFace_of_selects (args := #[]) (mvT hZ (wi hw 56 rfl))) (mvT hZ (wi hw 56 rfl)) (mvT hZ (wi hw 55 rfl)) (by decide) (StrChars.Road.lenW (W := 0) hZ (fun d hd => hw d (own_w_lenW d hd)) (kI := 4) (wi hw 6 rfl) sEr107 sVr107 sCr107 sKr107 scdr107 (own_up _ shpr107) (S_CS.ext O108.2) hG1 shlr107 (by decide) (by decide)) q109a q109c (g := (mkF m 176 #[.val (.int p1), .val (.int p2), .val (.int 4), .val (.int x3), .val (.int x4), .val (.ref b101), .val (.ref xr)] [(.ref xr)])) rfl (by rw [hml]; rfl) (Steps.refl _) (argsL := []) (rest := []) (lenOf pd_5 rfl) rfl (by show 2 * 0 + _ ≤ _; exact Nat.le_of_eq rfl) (hb hby at_176) (fun _ _ => ⟨rfl, e108, (by decide : 5 + 0 ≤ _), (by decide : 32 + 0 ≤ _)⟩)
  dsimp only [Pt.U, Pt.locs, Pt.cells, Pt.slots] at X109 l109 y109 z109 st109 hQ109
  subst l109 y109 z109
  obtain ⟨rfl, rfl, hh109⟩ := hQ109
  have N109q : Fr n0 ([] : List Loc) := Fr.nil n0
  have e109 : T109.heap = h108 := hh109
  have N109 := Fr.app N108 N109q
  obtain ⟨_, _, ⟨T110, L110, k110, n110⟩, -, X110, ⟨Lc110, hQ110, l110, y110, z110⟩, st110⟩ := Jvm.LawKit.callS X109 hx (y := y27) hown (mvT hZ (wi hw 116 rfl)) (mvT hZ (wi hw 117 rfl)) (mvT hZ (wi hw 3 rfl)) (mvT hZ (wi hw 118 rfl)) (by decide) (backOf (W := 0) (rmA_lt l Z a0 hw [] G1 G3 xr (0 : Int32) (4 : Int32) p1 0 ([d0, d1, d2, d3] : List Int32) h108 n0 O108 S_CS hG1 S_SF rG3 ⟨_, _, _, _, sEr107, sVr107, sCr107, sKr107, scdr107, shpr107, shlr107⟩ (by decide) (by decide) (Nat.le_of_ble_eq_true rfl) hd0) hZ (wi hw 118 rfl) (wi hw 3 rfl) (by decide) (by decide)) (g := (mkF m 188 #[.val (.int p1), .val (.int p2), .val (.int 4), .val (.int x3), .val (.int x4), .val (.ref b101), .val (.ref xr)] [(.int p1), (.int 4), (.int 0), (.ref xr)])) rfl (by rw [hml]; rfl) (argsL := [(.ref xr), (.int 0), (.int 4), (.int p1)]) (rest := []) (lenOf pd_17 rfl) rfl (by show 2 * 0 + _ ≤ _; exact Nat.le_of_eq rfl) (hb hby at_188) (fun _ _ => ⟨rfl, e109, (by decide : 5 + 0 ≤ _), (by decide : 32 + 0 ≤ _)⟩)
  dsimp only [Pt.U, Pt.locs, Pt.cells, Pt.slots] at X110 l110 y110 z110 st110 hQ110
  subst l110 y110 z110
  obtain ⟨rfl, N110q, hh110⟩ := hQ110
  have e110 : T110.heap = h108 := hh110
  have N110 := Fr.app N109 N110q
  obtain ⟨_, _, ⟨T111, L111, k111, n111⟩, -, X111, ⟨Lc111, hQ111, l111, y111, z111⟩, st111⟩ := Jvm.LawKit.callS X110 hx (y := y27) hown (mvT hZ (wi hw 116 rfl)) (mvT hZ (wi hw 117 rfl)) (mvT hZ (wi hw 3 rfl)) (mvT hZ (wi hw 118 rfl)) (by decide) (backOf (W := 0) (rmA_lt l Z a0 hw [] G1 G3 xr (1 : Int32) (4 : Int32) p1 1 ([d0, d1, d2, d3] : List Int32) h108 n0 O108 S_CS hG1 S_SF rG3 ⟨_, _, _, _, sEr107, sVr107, sCr107, sKr107, scdr107, shpr107, shlr107⟩ (by decide) (by decide) (Nat.le_of_ble_eq_true rfl) hd1) hZ (wi hw 118 rfl) (wi hw 3 rfl) (by decide) (by decide)) (g := (mkF m 199 #[.val (.int p1), .val (.int p2), .val (.int 4), .val (.int x3), .val (.int x4), .val (.ref b101), .val (.ref xr)] [(.int p1), (.int 4), (.int 1), (.ref xr)])) rfl (by rw [hml]; rfl) (argsL := [(.ref xr), (.int 1), (.int 4), (.int p1)]) (rest := []) (lenOf pd_17 rfl) rfl (by show 2 * 0 + _ ≤ _; exact Nat.le_of_eq rfl) (hb hby at_199) (fun _ _ => ⟨rfl, e110, (by decide : 5 + 0 ≤ _), (by decide : 32 + 0 ≤ _)⟩)
  dsimp only [Pt.U, Pt.locs, Pt.cells, Pt.slots] at X111 l111 y111 z111 st111 hQ111
  subst l111 y111 z111
  obtain ⟨rfl, N111q, hh111⟩ := hQ111
  have e111 : T111.heap = h108 := hh111
  have N111 := Fr.app N110 N111q
  obtain ⟨_, _, ⟨T112, L112, k112, n112⟩, -, X112, ⟨Lc112, hQ112, l112, y112, z112⟩, st112⟩ := Jvm.LawKit.callS X111 hx (y := y27) hown (mvT hZ (wi hw 116 rfl)) (mvT hZ (wi hw 117 rfl)) (mvT hZ (wi hw 3 rfl)) (mvT hZ (wi hw 118 rfl)) (by decide) (backOf (W := 0) (rmA_lt l Z a0 hw [] G1 G3 xr (2 : Int32) (4 : Int32) p1 2 ([d0, d1, d2, d3] : List Int32) h108 n0 O108 S_CS hG1 S_SF rG3 ⟨_, _, _, _, sEr107, sVr107, sCr107, sKr107, scdr107, shpr107, shlr107⟩ (by decide) (by decide) (Nat.le_of_ble_eq_true rfl) hd2) hZ (wi hw 118 rfl) (wi hw 3 rfl) (by decide) (by decide)) (g := (mkF m 210 #[.val (.int p1), .val (.int p2), .val (.int 4), .val (.int x3), .val (.int x4), .val (.ref b101), .val (.ref xr)] [(.int p1), (.int 4), (.int 2), (.ref xr)])) rfl (by rw [hml]; rfl) (argsL := [(.ref xr), (.int 2), (.int 4), (.int p1)]) (rest := []) (lenOf pd_17 rfl) rfl (by show 2 * 0 + _ ≤ _; exact Nat.le_of_eq rfl) (hb hby at_210) (fun _ _ => ⟨rfl, e111, (by decide : 5 + 0 ≤ _), (by decide : 32 + 0 ≤ _)⟩)
  dsimp only [Pt.U, Pt.locs, Pt.cells, Pt.slots] at X112 l112 y112 z112 st112 hQ112
  subst l112 y112 z112
  obtain ⟨rfl, N112q, hh112⟩ := hQ112
  have e112 : T112.heap = h108 := hh112
  have N112 := Fr.app N111 N112q
  obtain ⟨_, _, ⟨T113, L113, k113, n113⟩, -, X113, ⟨Lc113, hQ113, l113, y113, z113⟩, st113⟩ := Jvm.LawKit.callS X112 hx (y := y27) hown (mvT hZ (wi hw 116 rfl)) (mvT hZ (wi hw 117 rfl)) (mvT hZ (wi hw 3 rfl)) (mvT hZ (wi hw 118 rfl)) (by decide) (backOf (W := 0) (rmA_lt l Z a0 hw [] G1 G3 xr (3 : Int32) (4 : Int32) p1 3 ([d0, d1, d2, d3] : List Int32) h108 n0 O108 S_CS hG1 S_SF rG3 ⟨_, _, _, _, sEr107, sVr107, sCr107, sKr107, scdr107, shpr107, shlr107⟩ (by decide) (by decide) (Nat.le_of_ble_eq_true rfl) hd3) hZ (wi hw 118 rfl) (wi hw 3 rfl) (by decide) (by decide)) (g := (mkF m 221 #[.val (.int p1), .val (.int p2), .val (.int 4), .val (.int x3), .val (.int x4), .val (.ref b101), .val (.ref xr)] [(.int p1), (.int 4), (.int 3), (.ref xr)])) rfl (by rw [hml]; rfl) (argsL := [(.ref xr), (.int 3), (.int 4), (.int p1)]) (rest := []) (lenOf pd_17 rfl) rfl (by show 2 * 0 + _ ≤ _; exact Nat.le_of_eq rfl) (hb hby at_221) (fun _ _ => ⟨rfl, e112, (by decide : 5 + 0 ≤ _), (by decide : 32 + 0 ≤ _)⟩)
  dsimp only [Pt.U, Pt.locs, Pt.cells, Pt.slots] at X113 l113 y113 z113 st113 hQ113
  subst l113 y113 z113
  obtain ⟨rfl, N113q, hh113⟩ := hQ113
  have e113 : T113.heap = h108 := hh113
  have N113 := Fr.app N112 N113q
  obtain ⟨_, _, ⟨T114, L114, k114, n114⟩, -, X114, ⟨Lc114, hQ114, l114, y114, z114⟩, st114⟩ := Jvm.LawKit.callS X113 hx (y := y27) hown (mvT hZ (wi hw 116 rfl)) (mvT hZ (wi hw 117 rfl)) (mvT hZ (wi hw 3 rfl)) (mvT hZ (wi hw 118 rfl)) (by decide) (backOf (W := 0) (rmA_ge l Z a0 hw [] xr (4 : Int32) (4 : Int32) p1 h108 n0 O108 (by decide)) hZ (wi hw 118 rfl) (wi hw 3 rfl) (by decide) (by decide)) (g := (mkF m 232 #[.val (.int p1), .val (.int p2), .val (.int 4), .val (.int x3), .val (.int x4), .val (.ref b101), .val (.ref xr)] [(.int p1), (.int 4), (.int 4), (.ref xr)])) rfl (by rw [hml]; rfl) (argsL := [(.ref xr), (.int 4), (.int 4), (.int p1)]) (rest := []) (lenOf pd_17 rfl) rfl (by show 2 * 0 + _ ≤ _; exact Nat.le_of_eq rfl) (hb hby at_232) (fun _ _ => ⟨rfl, e113, (by decide : 5 + 0 ≤ _), (by decide : 32 + 0 ≤ _)⟩)
  dsimp only [Pt.U, Pt.locs, Pt.cells, Pt.slots] at X114 l114 y114 z114 st114 hQ114
  subst l114 y114 z114
  obtain ⟨rfl, N114q, hh114⟩ := hQ114
  have e114 : T114.heap = h108 := hh114
  have N114 := Fr.app N113 N114q
  obtain ⟨_, _, ⟨T115, L115, k115, n115⟩, -, X115, ⟨Lc115, hQ115, l115, y115, z115⟩, st115⟩ := Jvm.LawKit.callS X114 hx (y := y27) hown (mvT hZ (wi hw 116 rfl)) (mvT hZ (wi hw 117 rfl)) (mvT hZ (wi hw 3 rfl)) (mvT hZ (wi hw 118 rfl)) (by decide) (backOf (W := 0) (rmA_ge l Z a0 hw [] xr (5 : Int32) (4 : Int32) p1 h108 n0 O108 (by decide)) hZ (wi hw 118 rfl) (wi hw 3 rfl) (by decide) (by decide)) (g := (mkF m 243 #[.val (.int p1), .val (.int p2), .val (.int 4), .val (.int x3), .val (.int x4), .val (.ref b101), .val (.ref xr)] [(.int p1), (.int 4), (.int 5), (.ref xr)])) rfl (by rw [hml]; rfl) (argsL := [(.ref xr), (.int 5), (.int 4), (.int p1)]) (rest := []) (lenOf pd_17 rfl) rfl (by show 2 * 0 + _ ≤ _; exact Nat.le_of_eq rfl) (hb hby at_243) (fun _ _ => ⟨rfl, e114, (by decide : 5 + 0 ≤ _), (by decide : 32 + 0 ≤ _)⟩)
  dsimp only [Pt.U, Pt.locs, Pt.cells, Pt.slots] at X115 l115 y115 z115 st115 hQ115
  subst l115 y115 z115
  obtain ⟨rfl, N115q, hh115⟩ := hQ115
  have e115 : T115.heap = h108 := hh115
  have N115 := Fr.app N114 N115q
  obtain ⟨fs, hr, hrun, hended, hW, hsame⟩ := X115.leave (v := some (.int 1)) (fun h => by rw [Bd.returns] at h; cases h)
  refine ⟨_, _, pre0 _ ?_, hrun, hended, _, _, rfl, ?_, ⟨_, rfl⟩, hW, hsame.mono (by decide) (by decide)⟩
  · show Steps p.tables e below (s₁.setTop (mkF m 0 #[.val (.int p1), .val (.int p2), .unset, .unset, .unset, .unset, .unset] [])) _
    refine XS.iloadN X0.here hx rfl (hb hby at_0) rfl ?_
    refine XS.bipush X0.here hx rfl (hb hby at_1) ?_
    refine XS.iand X0.here hx rfl (hb hby at_3) rfl ?_
    show Steps p.tables e below (s₁.setTop (mkF m 4 #[.val (.int p1), .val (.int p2), .unset, .unset, .unset, .unset, .unset] [(.int (p2 &&& (7 : Int32)))])) _
    refine XS.bipush X0.here hx rfl (hb hby at_4) ?_
    refine XS.irem X0.here hx rfl (hb hby at_6) rfl (by decide) ?_
    refine XS.iconst X0.here hx rfl (hb hby at_7) ?_
    show Steps p.tables e below (s₁.setTop (mkF m 8 #[.val (.int p1), .val (.int p2), .unset, .unset, .unset, .unset, .unset] [(.int 1), (.int (irm (p2 &&& (7 : Int32)) (6 : Int32)))])) _
    refine XS.iadd X0.here hx rfl (hb hby at_8) rfl ?_
    show Steps p.tables e below (s₁.setTop (mkF m 9 #[.val (.int p1), .val (.int p2), .unset, .unset, .unset, .unset, .unset] [(.int ((irm (p2 &&& (7 : Int32)) (6 : Int32)) + (1 : Int32)))])) _
    rw [hm]
    show Steps p.tables e below (s₁.setTop (mkF m 9 #[.val (.int p1), .val (.int p2), .unset, .unset, .unset, .unset, .unset] [(.int 4)])) _
    refine XS.istoreN X0.here hx rfl (hb hby at_9) rfl (l' := #[.val (.int p1), .val (.int p2), .val (.int 4), .unset, .unset, .unset, .unset]) rfl ?_
    show Steps p.tables e below (s₁.setTop (mkF m 10 #[.val (.int p1), .val (.int p2), .val (.int 4), .unset, .unset, .unset, .unset] [])) _
    refine seg10 X0 hx hby p1 p2 (4 : Int32) x3 h3 ?_
    show Steps p.tables e below (s₁.setTop (mkF m 22 #[.val (.int p1), .val (.int p2), .val (.int 4), .unset, .unset, .unset, .unset] [(.int x3)])) _
    refine XS.istoreN X0.here hx rfl (hb hby at_22) rfl (l' := #[.val (.int p1), .val (.int p2), .val (.int 4), .val (.int x3), .unset, .unset, .unset]) rfl ?_
    show Steps p.tables e below (s₁.setTop (mkF m 23 #[.val (.int p1), .val (.int p2), .val (.int 4), .val (.int x3), .unset, .unset, .unset] [])) _
    refine seg23 X0 hx hby p1 p2 (4 : Int32) x3 x4 h4 ?_
    show Steps p.tables e below (s₁.setTop (mkF m 35 #[.val (.int p1), .val (.int p2), .val (.int 4), .val (.int x3), .unset, .unset, .unset] [(.int x4)])) _
    refine XS.istore X0.here hx rfl (hb hby at_35) rfl (l' := #[.val (.int p1), .val (.int p2), .val (.int 4), .val (.int x3), .val (.int x4), .unset, .unset]) rfl ?_
    show Steps p.tables e below (s₁.setTop (mkF m 37 #[.val (.int p1), .val (.int p2), .val (.int 4), .val (.int x3), .val (.int x4), .unset, .unset] [])) _
    refine st101 _ ?_
    show Steps p.tables e below (T101.setTop (mkF m 119 #[.val (.int p1), .val (.int p2), .val (.int 4), .val (.int x3), .val (.int x4), .val (.ref b101), .unset] [])) _
    refine st102 _ ?_
    show Steps p.tables e below (T102.setTop (mkF m 160 #[.val (.int p1), .val (.int p2), .val (.int 4), .val (.int x3), .val (.int x4), .val (.ref b101), .unset] [])) _
    refine st103 _ ?_
    show Steps p.tables e below (T103.setTop (mkF m 163 #[.val (.int p1), .val (.int p2), .val (.int 4), .val (.int x3), .val (.int x4), .val (.ref b101), .unset] [(.ref b103)])) _
    refine XS.dup X103.here hx rfl (hb hby at_163) rfl rfl ?_
    refine XS.aload X103.here hx rfl (hb hby at_164) rfl rfl ?_
    show Steps p.tables e below (T103.setTop (mkF m 166 #[.val (.int p1), .val (.int p2), .val (.int 4), .val (.int x3), .val (.int x4), .val (.ref b101), .unset] [(.ref b101), (.ref b103), (.ref b103)])) _
    refine st106.trans ?_
    show Steps p.tables e below (T106.setTop (mkF m 169 #[.val (.int p1), .val (.int p2), .val (.int 4), .val (.int x3), .val (.int x4), .val (.ref b101), .unset] [(.ref b103)])) _
    refine st108 _ ?_
    show Steps p.tables e below (T108.setTop (mkF m 172 #[.val (.int p1), .val (.int p2), .val (.int 4), .val (.int x3), .val (.int x4), .val (.ref b101), .unset] [(.ref xr)])) _
    refine XS.astore X108.here hx rfl (hb hby at_172) rfl rfl (l' := #[.val (.int p1), .val (.int p2), .val (.int 4), .val (.int x3), .val (.int x4), .val (.ref b101), .val (.ref xr)]) rfl ?_
    refine XS.aload X108.here hx rfl (hb hby at_174) rfl rfl ?_
    show Steps p.tables e below (T108.setTop (mkF m 176 #[.val (.int p1), .val (.int p2), .val (.int 4), .val (.int x3), .val (.int x4), .val (.ref b101), .val (.ref xr)] [(.ref xr)])) _
    refine st109.trans ?_
    show Steps p.tables e below (T109.setTop (mkF m 179 #[.val (.int p1), .val (.int p2), .val (.int 4), .val (.int x3), .val (.int x4), .val (.ref b101), .val (.ref xr)] [(.int 4)])) _
    refine XS.iloadN X109.here hx rfl (hb hby at_179) rfl ?_
    refine XS.icmpNo X109.here hx rfl (hb hby at_180) rfl (teq (by decide : (4 : Int32) = (4 : Int32))).2 ?_
    refine XS.aload X109.here hx rfl (hb hby at_183) rfl rfl ?_
    show Steps p.tables e below (T109.setTop (mkF m 185 #[.val (.int p1), .val (.int p2), .val (.int 4), .val (.int x3), .val (.int x4), .val (.ref b101), .val (.ref xr)] [(.ref xr)])) _
    refine XS.iconst X109.here hx rfl (hb hby at_185) ?_
    refine XS.iloadN X109.here hx rfl (hb hby at_186) rfl ?_
    refine XS.iloadN X109.here hx rfl (hb hby at_187) rfl ?_
    show Steps p.tables e below (T109.setTop (mkF m 188 #[.val (.int p1), .val (.int p2), .val (.int 4), .val (.int x3), .val (.int x4), .val (.ref b101), .val (.ref xr)] [(.int p1), (.int 4), (.int 0), (.ref xr)])) _
    refine st110 _ ?_
    show Steps p.tables e below (T110.setTop (mkF m 191 #[.val (.int p1), .val (.int p2), .val (.int 4), .val (.int x3), .val (.int x4), .val (.ref b101), .val (.ref xr)] [(.int 1)])) _
    refine XS.ifNo X110.here hx rfl (hb hby at_191) rfl ((if0 _ _).trans (feq (by decide : ¬ ((1 : Int32) = (0 : Int32)))).1) ?_
    refine XS.aload X110.here hx rfl (hb hby at_194) rfl rfl ?_
    refine XS.iconst X110.here hx rfl (hb hby at_196) ?_
    show Steps p.tables e below (T110.setTop (mkF m 197 #[.val (.int p1), .val (.int p2), .val (.int 4), .val (.int x3), .val (.int x4), .val (.ref b101), .val (.ref xr)] [(.int 1), (.ref xr)])) _
    refine XS.iloadN X110.here hx rfl (hb hby at_197) rfl ?_
    refine XS.iloadN X110.here hx rfl (hb hby at_198) rfl ?_
    show Steps p.tables e below (T110.setTop (mkF m 199 #[.val (.int p1), .val (.int p2), .val (.int 4), .val (.int x3), .val (.int x4), .val (.ref b101), .val (.ref xr)] [(.int p1), (.int 4), (.int 1), (.ref xr)])) _
    refine st111 _ ?_
    show Steps p.tables e below (T111.setTop (mkF m 202 #[.val (.int p1), .val (.int p2), .val (.int 4), .val (.int x3), .val (.int x4), .val (.ref b101), .val (.ref xr)] [(.int 1)])) _
    refine XS.ifNo X111.here hx rfl (hb hby at_202) rfl ((if0 _ _).trans (feq (by decide : ¬ ((1 : Int32) = (0 : Int32)))).1) ?_
    refine XS.aload X111.here hx rfl (hb hby at_205) rfl rfl ?_
    refine XS.iconst X111.here hx rfl (hb hby at_207) ?_
    show Steps p.tables e below (T111.setTop (mkF m 208 #[.val (.int p1), .val (.int p2), .val (.int 4), .val (.int x3), .val (.int x4), .val (.ref b101), .val (.ref xr)] [(.int 2), (.ref xr)])) _
    refine XS.iloadN X111.here hx rfl (hb hby at_208) rfl ?_
    refine XS.iloadN X111.here hx rfl (hb hby at_209) rfl ?_
    show Steps p.tables e below (T111.setTop (mkF m 210 #[.val (.int p1), .val (.int p2), .val (.int 4), .val (.int x3), .val (.int x4), .val (.ref b101), .val (.ref xr)] [(.int p1), (.int 4), (.int 2), (.ref xr)])) _
    refine st112 _ ?_
    show Steps p.tables e below (T112.setTop (mkF m 213 #[.val (.int p1), .val (.int p2), .val (.int 4), .val (.int x3), .val (.int x4), .val (.ref b101), .val (.ref xr)] [(.int 1)])) _
    refine XS.ifNo X112.here hx rfl (hb hby at_213) rfl ((if0 _ _).trans (feq (by decide : ¬ ((1 : Int32) = (0 : Int32)))).1) ?_
    refine XS.aload X112.here hx rfl (hb hby at_216) rfl rfl ?_
    refine XS.iconst X112.here hx rfl (hb hby at_218) ?_
    show Steps p.tables e below (T112.setTop (mkF m 219 #[.val (.int p1), .val (.int p2), .val (.int 4), .val (.int x3), .val (.int x4), .val (.ref b101), .val (.ref xr)] [(.int 3), (.ref xr)])) _
    refine XS.iloadN X112.here hx rfl (hb hby at_219) rfl ?_
    refine XS.iloadN X112.here hx rfl (hb hby at_220) rfl ?_
    show Steps p.tables e below (T112.setTop (mkF m 221 #[.val (.int p1), .val (.int p2), .val (.int 4), .val (.int x3), .val (.int x4), .val (.ref b101), .val (.ref xr)] [(.int p1), (.int 4), (.int 3), (.ref xr)])) _
    refine st113 _ ?_
    show Steps p.tables e below (T113.setTop (mkF m 224 #[.val (.int p1), .val (.int p2), .val (.int 4), .val (.int x3), .val (.int x4), .val (.ref b101), .val (.ref xr)] [(.int 1)])) _
    refine XS.ifNo X113.here hx rfl (hb hby at_224) rfl ((if0 _ _).trans (feq (by decide : ¬ ((1 : Int32) = (0 : Int32)))).1) ?_
    refine XS.aload X113.here hx rfl (hb hby at_227) rfl rfl ?_
    refine XS.iconst X113.here hx rfl (hb hby at_229) ?_
    show Steps p.tables e below (T113.setTop (mkF m 230 #[.val (.int p1), .val (.int p2), .val (.int 4), .val (.int x3), .val (.int x4), .val (.ref b101), .val (.ref xr)] [(.int 4), (.ref xr)])) _
    refine XS.iloadN X113.here hx rfl (hb hby at_230) rfl ?_
    refine XS.iloadN X113.here hx rfl (hb hby at_231) rfl ?_
    show Steps p.tables e below (T113.setTop (mkF m 232 #[.val (.int p1), .val (.int p2), .val (.int 4), .val (.int x3), .val (.int x4), .val (.ref b101), .val (.ref xr)] [(.int p1), (.int 4), (.int 4), (.ref xr)])) _
    refine st114 _ ?_
    show Steps p.tables e below (T114.setTop (mkF m 235 #[.val (.int p1), .val (.int p2), .val (.int 4), .val (.int x3), .val (.int x4), .val (.ref b101), .val (.ref xr)] [(.int 1)])) _
    refine XS.ifNo X114.here hx rfl (hb hby at_235) rfl ((if0 _ _).trans (feq (by decide : ¬ ((1 : Int32) = (0 : Int32)))).1) ?_
    refine XS.aload X114.here hx rfl (hb hby at_238) rfl rfl ?_
    refine XS.iconst X114.here hx rfl (hb hby at_240) ?_
    show Steps p.tables e below (T114.setTop (mkF m 241 #[.val (.int p1), .val (.int p2), .val (.int 4), .val (.int x3), .val (.int x4), .val (.ref b101), .val (.ref xr)] [(.int 5), (.ref xr)])) _
    refine XS.iloadN X114.here hx rfl (hb hby at_241) rfl ?_
    refine XS.iloadN X114.here hx rfl (hb hby at_242) rfl ?_
    show Steps p.tables e below (T114.setTop (mkF m 243 #[.val (.int p1), .val (.int p2), .val (.int 4), .val (.int x3), .val (.int x4), .val (.ref b101), .val (.ref xr)] [(.int p1), (.int 4), (.int 5), (.ref xr)])) _
    refine st115 _ ?_
    show Steps p.tables e below (T115.setTop (mkF m 246 #[.val (.int p1), .val (.int p2), .val (.int 4), .val (.int x3), .val (.int x4), .val (.ref b101), .val (.ref xr)] [(.int 1)])) _
    refine XS.ifNo X115.here hx rfl (hb hby at_246) rfl ((if0 _ _).trans (feq (by decide : ¬ ((1 : Int32) = (0 : Int32)))).1) ?_
    refine XS.iconst X115.here hx rfl (hb hby at_249) ?_
    refine XS.goto X115.here hx rfl (pc0 := 250) (pc' := 254) rfl (hb hby at_250) (by decide) (by decide) ?_
    show Steps p.tables e below (T115.setTop (mkF m 254 #[.val (.int p1), .val (.int p2), .val (.int 4), .val (.int x3), .val (.int x4), .val (.ref b101), .val (.ref xr)] [(.int 1)])) _
    exact retN X115 hx (t := .boolean) Bd.returns (by simp) (hb hby at_254) hr
  · show Q0 h0 n0 _ T115.heap _
    rw [e115]
    exact ⟨rfl, N115⟩
set_option maxRecDepth 65536 in
set_option maxHeartbeats 40000000 in
theorem sg2_500 (l : Launch) (Z : State) (a0 : Array Value) (hw : ∀ d ∈ tables_1, d.before a0 Z = true) (p1 p2 x3 x4 : Int32) (b : Addr) (kb : ClassId) (d0 d1 d2 d3 d4 d5 d6 d7 : Int32) {p : Program} {e : Env} {s : State} {m : MethodId} {args : Array Value} {below : List Frame} {meth : Method} {c : Code} {T0 : State} {L0 : List Loc} (h0 : Heap) (n0 : Nat) (O0 : Old Z n0 h0) (hx : p.tables.exec = Jvm.exec) (hby : c.code = code) (hml : c.maxLocals = 7) (hown : s.vm.findClass "io/roadcrew/resolve/VersionReaderMajorPinLaw" = some m.cls) (hZ : Z.Warmed39 s.vm) (X0 : Stand p l e room_1 s m args below meth c T0 L0 1 8) (e0 : T0.heap = h0) (N0 : Fr n0 L0) (K : Arv Z h0 b kb .char (8 : Int32) [(.int d0), (.int d1), (.int d2), (.int d3), (.int d4), (.int d5), (.int d6), (.int d7)] (.int (0 : Int32))) (gb : n0 ≤ b) (k3 : x3 = (0 : Int32)) (k4 : x4 = (0 : Int32)) :
    ∃ (T' : State) (h' : Heap) (L' : List Loc), Stand p l e room_1 s m args below meth c T' L' 1 8 ∧ T'.heap = h' ∧ Fr n0 L' ∧ Keep h0 h' [b] ∧ Arv Z h' b kb .char (8 : Int32) [(.int d0), (.int d1), (.int d2), (.int d3), (.int d4), (.int (46 : Int32)), (.int d6), (.int d7)] (.int (0 : Int32)) ∧ (∀ target, Steps p.tables e below (T'.setTop (mkF m 160 #[.val (.int p1), .val (.int p2), .val (.int 5), .val (.int x3), .val (.int x4), .val (.ref b), .unset] [])) target → Steps p.tables e below (T0.setTop (mkF m 119 #[.val (.int p1), .val (.int p2), .val (.int 5), .val (.int x3), .val (.int x4), .val (.ref b), .unset] [])) target) := by
  obtain ⟨cl_b_7, Ar_b_7, q_b_7, S_b_7, N_b_7, H_b_7, G_b_7⟩ := id (K)
  have hinb_7 : ¬ ((5 : Int32) < 0 ∨ cl_b_7.slots.size ≤ ((5 : Int32)).toNatClampNeg) := inb_of S_b_7 ⟨by decide, by decide⟩
  obtain ⟨T101, h101, X101, e101, W101, st101⟩ := stC X0 hx hZ e0 Ar_b_7 (j := (5 : Int32)) hinb_7 (g := (mkF m 124 #[.val (.int p1), .val (.int p2), .val (.int 5), .val (.int x3), .val (.int x4), .val (.ref b), .unset] [(.int 46), (.int 5), (.ref b)])) rfl rfl (hb hby at_124)
  have V_b_101 : Arv Z h101 b kb .char (8 : Int32) [(.int d0), (.int d1), (.int d2), (.int d3), (.int d4), (.int 46), (.int d6), (.int d7)] (.int 0) := Arv.set Ar_b_7 q_b_7 S_b_7 N_b_7 H_b_7 G_b_7 (fits_nar_char _) W101 5 rfl (Nat.le_of_ble_eq_true rfl)
  have O101 := O0.wr W101 gb
  have KK101 : Keep h0 h101 [b] := (Keep.refl h0 [b]).wr W101 (Or.inl (List.mem_of_getElem? (i := 0) rfl))
  have N101 := Fr.snoc X101 N0 gb
  refine ⟨_, _, _, X101, e101, N101, KK101, V_b_101, fun target k => ?_⟩
  show Steps p.tables e below (T0.setTop (mkF m 119 #[.val (.int p1), .val (.int p2), .val (.int 5), .val (.int x3), .val (.int x4), .val (.ref b), .unset] [])) _
  refine XS.aload X0.here hx rfl (hb hby at_119) rfl rfl ?_
  refine XS.iloadN X0.here hx rfl (hb hby at_121) rfl ?_
  refine XS.bipush X0.here hx rfl (hb hby at_122) ?_
  show Steps p.tables e below (T0.setTop (mkF m 124 #[.val (.int p1), .val (.int p2), .val (.int 5), .val (.int x3), .val (.int x4), .val (.ref b), .unset] [(.int 46), (.int 5), (.ref b)])) _
  refine st101 _ ?_
  show Steps p.tables e below (T101.setTop (mkF m 125 #[.val (.int p1), .val (.int p2), .val (.int 5), .val (.int x3), .val (.int x4), .val (.ref b), .unset] [])) _
  refine XS.iloadN X101.here hx rfl (hb hby at_125) rfl ?_
  refine XS.ifYes X101.here hx rfl (pc0 := 126) (pc' := 142) rfl (hb hby at_126) rfl ((if0 _ _).trans (teq k3).1) (by decide) (by decide) ?_
  refine XS.iload X101.here hx rfl (hb hby at_142) rfl ?_
  show Steps p.tables e below (T101.setTop (mkF m 144 #[.val (.int p1), .val (.int p2), .val (.int 5), .val (.int x3), .val (.int x4), .val (.ref b), .unset] [(.int x4)])) _
  refine XS.ifYes X101.here hx rfl (pc0 := 144) (pc' := 160) rfl (hb hby at_144) rfl ((if0 _ _).trans (teq k4).1) (by decide) (by decide) ?_
  exact k
set_option maxRecDepth 65536 in
set_option maxHeartbeats 40000000 in
theorem sg2_501 (l : Launch) (Z : State) (a0 : Array Value) (hw : ∀ d ∈ tables_1, d.before a0 Z = true) (p1 p2 x3 x4 : Int32) (b : Addr) (kb : ClassId) (d0 d1 d2 d3 d4 d5 d6 d7 : Int32) {p : Program} {e : Env} {s : State} {m : MethodId} {args : Array Value} {below : List Frame} {meth : Method} {c : Code} {T0 : State} {L0 : List Loc} (h0 : Heap) (n0 : Nat) (O0 : Old Z n0 h0) (hx : p.tables.exec = Jvm.exec) (hby : c.code = code) (hml : c.maxLocals = 7) (hown : s.vm.findClass "io/roadcrew/resolve/VersionReaderMajorPinLaw" = some m.cls) (hZ : Z.Warmed39 s.vm) (X0 : Stand p l e room_1 s m args below meth c T0 L0 1 8) (e0 : T0.heap = h0) (N0 : Fr n0 L0) (K : Arv Z h0 b kb .char (8 : Int32) [(.int d0), (.int d1), (.int d2), (.int d3), (.int d4), (.int d5), (.int d6), (.int d7)] (.int (0 : Int32))) (gb : n0 ≤ b) (k3 : x3 = (0 : Int32)) (k4 : ¬ (x4 = (0 : Int32))) :
    ∃ (T' : State) (h' : Heap) (L' : List Loc), Stand p l e room_1 s m args below meth c T' L' 1 8 ∧ T'.heap = h' ∧ Fr n0 L' ∧ Keep h0 h' [b] ∧ Arv Z h' b kb .char (8 : Int32) [(.int d0), (.int d1), (.int d2), (.int d3), (.int d4), (.int (46 : Int32)), (.int d6), (.int d7)] (.int (0 : Int32)) ∧ (∀ target, Steps p.tables e below (T'.setTop (mkF m 160 #[.val (.int p1), .val (.int p2), .val (.int 5), .val (.int x3), .val (.int x4), .val (.ref b), .unset] [])) target → Steps p.tables e below (T0.setTop (mkF m 119 #[.val (.int p1), .val (.int p2), .val (.int 5), .val (.int x3), .val (.int x4), .val (.ref b), .unset] [])) target) := by
  obtain ⟨cl_b_7, Ar_b_7, q_b_7, S_b_7, N_b_7, H_b_7, G_b_7⟩ := id (K)
  have hinb_7 : ¬ ((5 : Int32) < 0 ∨ cl_b_7.slots.size ≤ ((5 : Int32)).toNatClampNeg) := inb_of S_b_7 ⟨by decide, by decide⟩
  obtain ⟨T101, h101, X101, e101, W101, st101⟩ := stC X0 hx hZ e0 Ar_b_7 (j := (5 : Int32)) hinb_7 (g := (mkF m 124 #[.val (.int p1), .val (.int p2), .val (.int 5), .val (.int x3), .val (.int x4), .val (.ref b), .unset] [(.int 46), (.int 5), (.ref b)])) rfl rfl (hb hby at_124)
  have V_b_101 : Arv Z h101 b kb .char (8 : Int32) [(.int d0), (.int d1), (.int d2), (.int d3), (.int d4), (.int 46), (.int d6), (.int d7)] (.int 0) := Arv.set Ar_b_7 q_b_7 S_b_7 N_b_7 H_b_7 G_b_7 (fits_nar_char _) W101 5 rfl (Nat.le_of_ble_eq_true rfl)
  have O101 := O0.wr W101 gb
  have KK101 : Keep h0 h101 [b] := (Keep.refl h0 [b]).wr W101 (Or.inl (List.mem_of_getElem? (i := 0) rfl))
  have N101 := Fr.snoc X101 N0 gb
  refine ⟨_, _, _, X101, e101, N101, KK101, V_b_101, fun target k => ?_⟩
  show Steps p.tables e below (T0.setTop (mkF m 119 #[.val (.int p1), .val (.int p2), .val (.int 5), .val (.int x3), .val (.int x4), .val (.ref b), .unset] [])) _
  refine XS.aload X0.here hx rfl (hb hby at_119) rfl rfl ?_
  refine XS.iloadN X0.here hx rfl (hb hby at_121) rfl ?_
  refine XS.bipush X0.here hx rfl (hb hby at_122) ?_
  show Steps p.tables e below (T0.setTop (mkF m 124 #[.val (.int p1), .val (.int p2), .val (.int 5), .val (.int x3), .val (.int x4), .val (.ref b), .unset] [(.int 46), (.int 5), (.ref b)])) _
  refine st101 _ ?_
  show Steps p.tables e below (T101.setTop (mkF m 125 #[.val (.int p1), .val (.int p2), .val (.int 5), .val (.int x3), .val (.int x4), .val (.ref b), .unset] [])) _
  refine XS.iloadN X101.here hx rfl (hb hby at_125) rfl ?_
  refine XS.ifYes X101.here hx rfl (pc0 := 126) (pc' := 142) rfl (hb hby at_126) rfl ((if0 _ _).trans (teq k3).1) (by decide) (by decide) ?_
  refine XS.iload X101.here hx rfl (hb hby at_142) rfl ?_
  show Steps p.tables e below (T101.setTop (mkF m 144 #[.val (.int p1), .val (.int p2), .val (.int 5), .val (.int x3), .val (.int x4), .val (.ref b), .unset] [(.int x4)])) _
  refine XS.ifNo X101.here hx rfl (hb hby at_144) rfl ((if0 _ _).trans (feq k4).1) ?_
  refine XS.iloadN X101.here hx rfl (hb hby at_147) rfl ?_
  refine XS.iconst X101.here hx rfl (hb hby at_148) ?_
  show Steps p.tables e below (T101.setTop (mkF m 149 #[.val (.int p1), .val (.int p2), .val (.int 5), .val (.int x3), .val (.int x4), .val (.ref b), .unset] [(.int 2), (.int 5)])) _
  refine XS.icmpYes X101.here hx rfl (pc0 := 149) (pc' := 160) rfl (hb hby at_149) rfl (tlt (by decide : (2 : Int32) < (5 : Int32))).2.2.1 (by decide) (by decide) ?_
  exact k
set_option maxRecDepth 65536 in
set_option maxHeartbeats 40000000 in
theorem sg2_510 (l : Launch) (Z : State) (a0 : Array Value) (hw : ∀ d ∈ tables_1, d.before a0 Z = true) (p1 p2 x3 x4 : Int32) (b : Addr) (kb : ClassId) (d0 d1 d2 d3 d4 d5 d6 d7 : Int32) {p : Program} {e : Env} {s : State} {m : MethodId} {args : Array Value} {below : List Frame} {meth : Method} {c : Code} {T0 : State} {L0 : List Loc} (h0 : Heap) (n0 : Nat) (O0 : Old Z n0 h0) (hx : p.tables.exec = Jvm.exec) (hby : c.code = code) (hml : c.maxLocals = 7) (hown : s.vm.findClass "io/roadcrew/resolve/VersionReaderMajorPinLaw" = some m.cls) (hZ : Z.Warmed39 s.vm) (X0 : Stand p l e room_1 s m args below meth c T0 L0 1 8) (e0 : T0.heap = h0) (N0 : Fr n0 L0) (K : Arv Z h0 b kb .char (8 : Int32) [(.int d0), (.int d1), (.int d2), (.int d3), (.int d4), (.int d5), (.int d6), (.int d7)] (.int (0 : Int32))) (gb : n0 ≤ b) (k3 : ¬ (x3 = (0 : Int32))) (k4 : x4 = (0 : Int32)) :
    ∃ (T' : State) (h' : Heap) (L' : List Loc), Stand p l e room_1 s m args below meth c T' L' 1 8 ∧ T'.heap = h' ∧ Fr n0 L' ∧ Keep h0 h' [b] ∧ Arv Z h' b kb .char (8 : Int32) [(.int d0), (.int d1), (.int d2), (.int d3), (.int d4), (.int (46 : Int32)), (.int d6), (.int d7)] (.int (0 : Int32)) ∧ (∀ target, Steps p.tables e below (T'.setTop (mkF m 160 #[.val (.int p1), .val (.int p2), .val (.int 5), .val (.int x3), .val (.int x4), .val (.ref b), .unset] [])) target → Steps p.tables e below (T0.setTop (mkF m 119 #[.val (.int p1), .val (.int p2), .val (.int 5), .val (.int x3), .val (.int x4), .val (.ref b), .unset] [])) target) := by
  obtain ⟨cl_b_7, Ar_b_7, q_b_7, S_b_7, N_b_7, H_b_7, G_b_7⟩ := id (K)
  have hinb_7 : ¬ ((5 : Int32) < 0 ∨ cl_b_7.slots.size ≤ ((5 : Int32)).toNatClampNeg) := inb_of S_b_7 ⟨by decide, by decide⟩
  obtain ⟨T101, h101, X101, e101, W101, st101⟩ := stC X0 hx hZ e0 Ar_b_7 (j := (5 : Int32)) hinb_7 (g := (mkF m 124 #[.val (.int p1), .val (.int p2), .val (.int 5), .val (.int x3), .val (.int x4), .val (.ref b), .unset] [(.int 46), (.int 5), (.ref b)])) rfl rfl (hb hby at_124)
  have V_b_101 : Arv Z h101 b kb .char (8 : Int32) [(.int d0), (.int d1), (.int d2), (.int d3), (.int d4), (.int 46), (.int d6), (.int d7)] (.int 0) := Arv.set Ar_b_7 q_b_7 S_b_7 N_b_7 H_b_7 G_b_7 (fits_nar_char _) W101 5 rfl (Nat.le_of_ble_eq_true rfl)
  have O101 := O0.wr W101 gb
  have KK101 : Keep h0 h101 [b] := (Keep.refl h0 [b]).wr W101 (Or.inl (List.mem_of_getElem? (i := 0) rfl))
  have N101 := Fr.snoc X101 N0 gb
  refine ⟨_, _, _, X101, e101, N101, KK101, V_b_101, fun target k => ?_⟩
  show Steps p.tables e below (T0.setTop (mkF m 119 #[.val (.int p1), .val (.int p2), .val (.int 5), .val (.int x3), .val (.int x4), .val (.ref b), .unset] [])) _
  refine XS.aload X0.here hx rfl (hb hby at_119) rfl rfl ?_
  refine XS.iloadN X0.here hx rfl (hb hby at_121) rfl ?_
  refine XS.bipush X0.here hx rfl (hb hby at_122) ?_
  show Steps p.tables e below (T0.setTop (mkF m 124 #[.val (.int p1), .val (.int p2), .val (.int 5), .val (.int x3), .val (.int x4), .val (.ref b), .unset] [(.int 46), (.int 5), (.ref b)])) _
  refine st101 _ ?_
  show Steps p.tables e below (T101.setTop (mkF m 125 #[.val (.int p1), .val (.int p2), .val (.int 5), .val (.int x3), .val (.int x4), .val (.ref b), .unset] [])) _
  refine XS.iloadN X101.here hx rfl (hb hby at_125) rfl ?_
  refine XS.ifNo X101.here hx rfl (hb hby at_126) rfl ((if0 _ _).trans (feq k3).1) ?_
  refine XS.iloadN X101.here hx rfl (hb hby at_129) rfl ?_
  show Steps p.tables e below (T101.setTop (mkF m 130 #[.val (.int p1), .val (.int p2), .val (.int 5), .val (.int x3), .val (.int x4), .val (.ref b), .unset] [(.int 5)])) _
  refine XS.iconst X101.here hx rfl (hb hby at_130) ?_
  refine XS.icmpYes X101.here hx rfl (pc0 := 131) (pc' := 142) rfl (hb hby at_131) rfl (tlt (by decide : (4 : Int32) < (5 : Int32))).2.2.1 (by decide) (by decide) ?_
  refine XS.iload X101.here hx rfl (hb hby at_142) rfl ?_
  show Steps p.tables e below (T101.setTop (mkF m 144 #[.val (.int p1), .val (.int p2), .val (.int 5), .val (.int x3), .val (.int x4), .val (.ref b), .unset] [(.int x4)])) _
  refine XS.ifYes X101.here hx rfl (pc0 := 144) (pc' := 160) rfl (hb hby at_144) rfl ((if0 _ _).trans (teq k4).1) (by decide) (by decide) ?_
  exact k
set_option maxRecDepth 65536 in
set_option maxHeartbeats 40000000 in
theorem sg2_511 (l : Launch) (Z : State) (a0 : Array Value) (hw : ∀ d ∈ tables_1, d.before a0 Z = true) (p1 p2 x3 x4 : Int32) (b : Addr) (kb : ClassId) (d0 d1 d2 d3 d4 d5 d6 d7 : Int32) {p : Program} {e : Env} {s : State} {m : MethodId} {args : Array Value} {below : List Frame} {meth : Method} {c : Code} {T0 : State} {L0 : List Loc} (h0 : Heap) (n0 : Nat) (O0 : Old Z n0 h0) (hx : p.tables.exec = Jvm.exec) (hby : c.code = code) (hml : c.maxLocals = 7) (hown : s.vm.findClass "io/roadcrew/resolve/VersionReaderMajorPinLaw" = some m.cls) (hZ : Z.Warmed39 s.vm) (X0 : Stand p l e room_1 s m args below meth c T0 L0 1 8) (e0 : T0.heap = h0) (N0 : Fr n0 L0) (K : Arv Z h0 b kb .char (8 : Int32) [(.int d0), (.int d1), (.int d2), (.int d3), (.int d4), (.int d5), (.int d6), (.int d7)] (.int (0 : Int32))) (gb : n0 ≤ b) (k3 : ¬ (x3 = (0 : Int32))) (k4 : ¬ (x4 = (0 : Int32))) :
    ∃ (T' : State) (h' : Heap) (L' : List Loc), Stand p l e room_1 s m args below meth c T' L' 1 8 ∧ T'.heap = h' ∧ Fr n0 L' ∧ Keep h0 h' [b] ∧ Arv Z h' b kb .char (8 : Int32) [(.int d0), (.int d1), (.int d2), (.int d3), (.int d4), (.int (46 : Int32)), (.int d6), (.int d7)] (.int (0 : Int32)) ∧ (∀ target, Steps p.tables e below (T'.setTop (mkF m 160 #[.val (.int p1), .val (.int p2), .val (.int 5), .val (.int x3), .val (.int x4), .val (.ref b), .unset] [])) target → Steps p.tables e below (T0.setTop (mkF m 119 #[.val (.int p1), .val (.int p2), .val (.int 5), .val (.int x3), .val (.int x4), .val (.ref b), .unset] [])) target) := by
  obtain ⟨cl_b_7, Ar_b_7, q_b_7, S_b_7, N_b_7, H_b_7, G_b_7⟩ := id (K)
  have hinb_7 : ¬ ((5 : Int32) < 0 ∨ cl_b_7.slots.size ≤ ((5 : Int32)).toNatClampNeg) := inb_of S_b_7 ⟨by decide, by decide⟩
  obtain ⟨T101, h101, X101, e101, W101, st101⟩ := stC X0 hx hZ e0 Ar_b_7 (j := (5 : Int32)) hinb_7 (g := (mkF m 124 #[.val (.int p1), .val (.int p2), .val (.int 5), .val (.int x3), .val (.int x4), .val (.ref b), .unset] [(.int 46), (.int 5), (.ref b)])) rfl rfl (hb hby at_124)
  have V_b_101 : Arv Z h101 b kb .char (8 : Int32) [(.int d0), (.int d1), (.int d2), (.int d3), (.int d4), (.int 46), (.int d6), (.int d7)] (.int 0) := Arv.set Ar_b_7 q_b_7 S_b_7 N_b_7 H_b_7 G_b_7 (fits_nar_char _) W101 5 rfl (Nat.le_of_ble_eq_true rfl)
  have O101 := O0.wr W101 gb
  have KK101 : Keep h0 h101 [b] := (Keep.refl h0 [b]).wr W101 (Or.inl (List.mem_of_getElem? (i := 0) rfl))
  have N101 := Fr.snoc X101 N0 gb
  refine ⟨_, _, _, X101, e101, N101, KK101, V_b_101, fun target k => ?_⟩
  show Steps p.tables e below (T0.setTop (mkF m 119 #[.val (.int p1), .val (.int p2), .val (.int 5), .val (.int x3), .val (.int x4), .val (.ref b), .unset] [])) _
  refine XS.aload X0.here hx rfl (hb hby at_119) rfl rfl ?_
  refine XS.iloadN X0.here hx rfl (hb hby at_121) rfl ?_
  refine XS.bipush X0.here hx rfl (hb hby at_122) ?_
  show Steps p.tables e below (T0.setTop (mkF m 124 #[.val (.int p1), .val (.int p2), .val (.int 5), .val (.int x3), .val (.int x4), .val (.ref b), .unset] [(.int 46), (.int 5), (.ref b)])) _
  refine st101 _ ?_
  show Steps p.tables e below (T101.setTop (mkF m 125 #[.val (.int p1), .val (.int p2), .val (.int 5), .val (.int x3), .val (.int x4), .val (.ref b), .unset] [])) _
  refine XS.iloadN X101.here hx rfl (hb hby at_125) rfl ?_
  refine XS.ifNo X101.here hx rfl (hb hby at_126) rfl ((if0 _ _).trans (feq k3).1) ?_
  refine XS.iloadN X101.here hx rfl (hb hby at_129) rfl ?_
  show Steps p.tables e below (T101.setTop (mkF m 130 #[.val (.int p1), .val (.int p2), .val (.int 5), .val (.int x3), .val (.int x4), .val (.ref b), .unset] [(.int 5)])) _
  refine XS.iconst X101.here hx rfl (hb hby at_130) ?_
  refine XS.icmpYes X101.here hx rfl (pc0 := 131) (pc' := 142) rfl (hb hby at_131) rfl (tlt (by decide : (4 : Int32) < (5 : Int32))).2.2.1 (by decide) (by decide) ?_
  refine XS.iload X101.here hx rfl (hb hby at_142) rfl ?_
  show Steps p.tables e below (T101.setTop (mkF m 144 #[.val (.int p1), .val (.int p2), .val (.int 5), .val (.int x3), .val (.int x4), .val (.ref b), .unset] [(.int x4)])) _
  refine XS.ifNo X101.here hx rfl (hb hby at_144) rfl ((if0 _ _).trans (feq k4).1) ?_
  refine XS.iloadN X101.here hx rfl (hb hby at_147) rfl ?_
  refine XS.iconst X101.here hx rfl (hb hby at_148) ?_
  show Steps p.tables e below (T101.setTop (mkF m 149 #[.val (.int p1), .val (.int p2), .val (.int 5), .val (.int x3), .val (.int x4), .val (.ref b), .unset] [(.int 2), (.int 5)])) _
  refine XS.icmpYes X101.here hx rfl (pc0 := 149) (pc' := 160) rfl (hb hby at_149) rfl (tlt (by decide : (2 : Int32) < (5 : Int32))).2.2.1 (by decide) (by decide) ?_
  exact k
theorem sg2_5 (l : Launch) (Z : State) (a0 : Array Value) (hw : ∀ d ∈ tables_1, d.before a0 Z = true) (p1 p2 x3 x4 f2 f4 : Int32) (b : Addr) (kb : ClassId) (d0 d1 d2 d3 d4 d5 d6 d7 : Int32) {p : Program} {e : Env} {s : State} {m : MethodId} {args : Array Value} {below : List Frame} {meth : Method} {c : Code} {T0 : State} {L0 : List Loc} (h0 : Heap) (n0 : Nat) (O0 : Old Z n0 h0) (hx : p.tables.exec = Jvm.exec) (hby : c.code = code) (hml : c.maxLocals = 7) (hown : s.vm.findClass "io/roadcrew/resolve/VersionReaderMajorPinLaw" = some m.cls) (hZ : Z.Warmed39 s.vm) (X0 : Stand p l e room_1 s m args below meth c T0 L0 1 8) (e0 : T0.heap = h0) (N0 : Fr n0 L0) (K : Arv Z h0 b kb .char (8 : Int32) [(.int d0), (.int d1), (.int d2), (.int d3), (.int d4), (.int d5), (.int d6), (.int d7)] (.int (0 : Int32))) (gb : n0 ≤ b) :
    ∃ (T' : State) (h' : Heap) (L' : List Loc), Stand p l e room_1 s m args below meth c T' L' 1 8 ∧ T'.heap = h' ∧ Fr n0 L' ∧ Keep h0 h' [b] ∧ Arv Z h' b kb .char (8 : Int32) [(.int d0), (.int d1), (.int d2), (.int d3), (.int d4), (.int (46 : Int32)), (.int d6), (.int d7)] (.int (0 : Int32)) ∧ (∀ target, Steps p.tables e below (T'.setTop (mkF m 160 #[.val (.int p1), .val (.int p2), .val (.int 5), .val (.int x3), .val (.int x4), .val (.ref b), .unset] [])) target → Steps p.tables e below (T0.setTop (mkF m 119 #[.val (.int p1), .val (.int p2), .val (.int 5), .val (.int x3), .val (.int x4), .val (.ref b), .unset] [])) target) := by
  by_cases k3 : x3 = (0 : Int32)
  · skip
    by_cases k4 : x4 = (0 : Int32)
    · exact sg2_500 l Z a0 hw p1 p2 x3 x4 b kb d0 d1 d2 d3 d4 d5 d6 d7 h0 n0 O0 hx hby hml hown hZ X0 e0 N0 K gb k3 k4
    · exact sg2_501 l Z a0 hw p1 p2 x3 x4 b kb d0 d1 d2 d3 d4 d5 d6 d7 h0 n0 O0 hx hby hml hown hZ X0 e0 N0 K gb k3 k4
  · skip
    by_cases k4 : x4 = (0 : Int32)
    · exact sg2_510 l Z a0 hw p1 p2 x3 x4 b kb d0 d1 d2 d3 d4 d5 d6 d7 h0 n0 O0 hx hby hml hown hZ X0 e0 N0 K gb k3 k4
    · exact sg2_511 l Z a0 hw p1 p2 x3 x4 b kb d0 d1 d2 d3 d4 d5 d6 d7 h0 n0 O0 hx hby hml hown hZ X0 e0 N0 K gb k3 k4
set_option maxRecDepth 65536 in
set_option maxHeartbeats 40000000 in
theorem rm0_5 (l : Launch) (Z : State) (a0 : Array Value) (hw : ∀ d ∈ tables_1, d.before a0 Z = true) (ws : List Jvm.Cond) (p1 p2 : Int32) (G1 : Int32) (G3 : Value) (x3 x4 f2 f4 : Int32) (d0 d1 d2 d3 d4 d5 d6 d7 : Int32) (h0 : Heap) (n0 : Nat) (O0 : Old Z n0 h0) (S_CS : Sta Z Z.heap "java/lang/String" "COMPACT_STRINGS" "Z" (.int G1)) (hG1 : ¬ (G1 = (0 : Int32))) (S_SF : Sta Z Z.heap "jdk/internal/util/Preconditions" "SIOOBE_FORMATTER" "Ljava/util/function/BiFunction;" G3) (rG3 : G3.isRef = true) (hd0 : d0 = dig p1 (0 : Int32)) (hd1 : d1 = dig p1 (1 : Int32)) (hd2 : d2 = dig p1 (2 : Int32)) (hd3 : d3 = dig p1 (3 : Int32)) (hd4 : d4 = dig p1 (4 : Int32)) (hd5 : d5 = dig p1 (5 : Int32)) (hd6 : d6 = dig p1 (6 : Int32)) (hd7 : d7 = dig p1 (7 : Int32)) (h3 : x3 = if (p2 &&& (8 : Int32)) = (0 : Int32) then (0 : Int32) else (1 : Int32)) (h4 : x4 = if (p2 &&& (16 : Int32)) = (0 : Int32) then (0 : Int32) else (1 : Int32)) (hm : ((irm (p2 &&& (7 : Int32)) (6 : Int32)) + (1 : Int32)) = (5 : Int32)) :
    MetFree l x (head1 (Jvm.Cond.code x code maxLocals ret :: ws) room_1) (fun a_ U => a_ = #[(.int p1), (.int p2)] ∧ Z.Warmed39 U.vm ∧ U.heap = h0) (fun _ _ _ _ _ => True) (fun _ U o U' => ∃ v L, o = .returned v ∧ Q0 h0 n0 v U'.heap L ∧ FrameEnd U o U' L room_1.cells room_1.slots) := by
  refine MetFree.of_bodySF (plainFor_of_name pn_0) hisR ?_
  intro p e s m args below meth c s₁ Bd hml0 hP hK
  obtain ⟨rfl, hZ, hh⟩ := hP
  have hx := Bd.exec
  have hby := Bd.bytes
  have hml : c.maxLocals = 7 := hml0
  have hown : s.vm.findClass "io/roadcrew/resolve/VersionReaderMajorPinLaw" = some m.cls := findClass_of_methodNamed Bd.named
  have hnm := (name_of_methodNamed Bd.named Bd.method).1
  have X0 : Stand p l e room_1 s m #[(.int p1), (.int p2)] below meth c s₁ [] 0 0 := Stand.of_body Bd
  have e0 : s₁.heap = h0 := by rw [← hh, Bd.state]; rfl
  have N0 := Fr.nil n0
  have pre0 : ∀ tg, Steps p.tables e below (s₁.setTop (mkF m 0 #[.val (.int p1), .val (.int p2), .unset, .unset, .unset, .unset, .unset] [])) tg → Steps p.tables e below (s₁.setTop (entryFrame m #[(.int p1), (.int p2)] maxLocals)) tg := fun tg kq => castTop (ef_II_7m m p1 p2) kq
  obtain ⟨T101, h101, L101, b101, kb101, X101, e101, Ns101, K101, szb101, Vb101, st101⟩ := sg1 l Z a0 hw p1 p2 (5 : Int32) x3 x4 d0 d1 d2 d3 d4 d5 d6 d7 h0 n0 O0 hx hby hml hown hZ X0 e0 N0 hd0 hd1 hd2 hd3 hd4 hd5 hd6 hd7
  have g_b101 : n0 ≤ b101 := Nat.le_trans (O0.1 ▸ O0.2.1) szb101
  have sz_b101 : h0.size ≤ b101 := Nat.le_trans (Nat.le_refl _) szb101
  have O101 := O0.keep K101 all0
  have KK101 : Keep h0 h101 [] := (Keep.refl h0 []).trans K101 all0
  obtain ⟨T102, h102, L102, X102, e102, Ns102, K102, Vc102, st102⟩ := sg2_5 l Z a0 hw p1 p2 x3 x4 f2 f4 b101 kb101 d0 d1 d2 d3 d4 d5 d6 d7 h101 n0 O101 hx hby hml hown hZ X101 e101 Ns101 Vb101 g_b101 
  have O102 := O101.keep K102 (allS g_b101 all0)
  have KK102 : Keep h0 h102 [] := KK101.trans K102 (allS (Or.inr sz_b101) all0)
  obtain ⟨T103, h103, X103, e103, E103, A103, D103, -, st103⟩ := newO X102 hx hZ hown (wi hw 5 rfl) (wi hw 6 rfl) (wi hw 7 rfl) e102 (g := (mkF m 160 #[.val (.int p1), .val (.int p2), .val (.int 5), .val (.int x3), .val (.int x4), .val (.ref b101), .unset] [])) rfl (hb hby at_160) (by decide) (by decide)
  obtain ⟨b103, g103⟩ : ∃ z, z = h102.size := ⟨_, rfl⟩
  rw [← g103] at A103 D103 st103
  have g_b103 : n0 ≤ b103 := Nat.le_trans (O102.1 ▸ O102.2.1) (Nat.le_of_eq g103.symm)
  have sz_b103 : h0.size ≤ b103 := Nat.le_trans KK102.1 (Nat.le_of_eq g103.symm)
  have O103 := O102.ext E103
  have KK103 : Keep h0 h103 [] := KK102.ext E103
  have F_coder_b103 : Fld Z h103 b103 "java/lang/String" "coder" "B" (.int 0) := D103 (Or.inr (wi hw 31 rfl)) (ty := .byte) (by decide)
  have F_value_b103 : Fld Z h103 b103 "java/lang/String" "value" "[B" .null := D103 (Or.inr (wi hw 33 rfl)) (ty := (.array .byte)) (by decide)
  have fV_b101_3_104 := (Vc102.ext E103)
  have shp105 : ∀ c ∈ ([d0, d1, d2, d3, d4, (46 : Int32), d6, d7] : List Int32), ¬ c < 0 ∧ ¬ (255 : Int32) < c := (own_memS (own_dd hd0).1 (own_memS (own_dd hd1).1 (own_memS (own_dd hd2).1 (own_memS (own_dd hd3).1 (own_memS (own_dd hd4).1 (own_memS (by decide) (own_memS (own_dd hd6).1 (own_memS (own_dd hd7).1 own_mem0))))))))
  have sA105 : Arv Z h103 b101 kb101 .char (8 : Int32) (([d0, d1, d2, d3, d4, (46 : Int32), d6, d7] : List Int32).map Value.int) (.int (0 : Int32)) := fV_b101_3_104
  obtain ⟨_, _, ⟨T106, L106, k106, n106⟩, -, X106, ⟨Lc106, hQ106, l106, y106, z106⟩, st106⟩ := X103.specialBack hx (y := y2) rfl hown (mvT hZ (wi hw 8 rfl)) (mvT hZ (wi hw 9 rfl)) (mvT hZ (wi hw 10 rfl)) (by decide) (StrChars.Road.backV (W := 1) hZ (fun d hd => hw d (own_w_backV d hd)) (kI := 4) (wi hw 6 rfl) (cs := ([d0, d1, d2, d3, d4, (46 : Int32), d6, d7] : List Int32)) (bs := ([d0, d1, d2, d3, d4, (46 : Int32), d6, d7] : List Int32).map (fun c => c.toInt8.toInt32)) (n := 8) g_b103 (O103.1 ▸ O103.2.1) A103 F_value_b103 F_coder_b103 sA105 (S_CS.ext O103.2) hG1 rfl rfl (by decide) (by decide) shp105 rfl (by decide) (by decide)) (g := (mkF m 166 #[.val (.int p1), .val (.int p2), .val (.int 5), .val (.int x3), .val (.int x4), .val (.ref b101), .unset] [(.ref b101), (.ref b103), (.ref b103)])) rfl (by rw [hml]; rfl) (Steps.refl _) (a := b103) (argsL := [(.ref b101)]) (rest := [(.ref b103)]) (lenOf pd_15 rfl) rfl (by show 2 * 0 + _ ≤ _; exact Nat.le_of_eq rfl) (hb hby at_166) (fun _ _ => ⟨rfl, e103, (by decide : 2 + 1 ≤ _), (by decide : 12 + 8 ≤ _)⟩)
  dsimp only [Pt.U, Pt.locs, Pt.cells, Pt.slots] at X106 l106 y106 z106 st106 hQ106
  subst l106 y106 z106
  obtain ⟨rfl, N106q, K106, sE105, sC105, t105, kb105, sg105, ssz105, sne105, sV105, sK105⟩ := hQ106
  obtain ⟨h106, e106⟩ : ∃ z, T106.heap = z := ⟨_, rfl⟩
  rw [e106] at K106 sE105 sC105 sV105 sK105
  have g_t105 : n0 ≤ t105 := Nat.le_trans (O103.1 ▸ O103.2.1) ssz105
  have sz_t105 : h0.size ≤ t105 := Nat.le_trans KK103.1 ssz105
  have O106 := O103.keep K106 (allS g_b103 all0)
  have KK106 : Keep h0 h106 [] := KK103.trans K106 (allS (Or.inr sz_b103) all0)
  have N106 := Fr.app Ns102 N106q
  have scd105 : StrChars.Road.CodA ([d0, d1, d2, d3, d4, (46 : Int32), d6, d7] : List Int32) 0 (8 : Int32) ((([d0, d1, d2, d3, d4, (46 : Int32), d6, d7] : List Int32).map (fun c => c.toInt8.toInt32)).map Value.int) := StrChars.Road.codOf (n := 8) rfl (fun c hc => (shp105 c hc).2)
  obtain ⟨_, _, ⟨T108, L108, k108, n108⟩, -, X108, ⟨Lc108, hQ108, l108, y108, z108⟩, st108⟩ := Jvm.LawKit.callS X106 hx (y := y8) hown (mvT hZ (wi hw 34 rfl)) (mvT hZ (wi hw 35 rfl)) (mvT hZ (wi hw 36 rfl)) (mvT hZ (wi hw 37 rfl)) (by decide) (backOf (W := 0) (rmM l Z a0 hw [] G1 G3 b103 (5 : Int32) 5 ([d0, d1, d2, d3, d4, (46 : Int32), d6, d7] : List Int32) ([d0, d1, d2, d3, d4] : List Int32) h106 n0 O106 S_CS hG1 S_SF rG3 ⟨_, _, _, _, sE105, sV105, sC105, sK105, scd105, shp105, (Nat.le_of_ble_eq_true rfl)⟩ rfl ⟨(StrChars.lo8 d0), (StrChars.lo8 d1), (StrChars.lo8 d2), (StrChars.lo8 d3), (StrChars.lo8 d4), (StrChars.lo8 (46 : Int32)), (StrChars.lo8 d6), (StrChars.lo8 d7), Or.inr (Or.inr (Or.inr (Or.inr (Or.inl ⟨rfl, rfl, (own_dd hd0).2, (own_dd hd1).2, (own_dd hd2).2, (own_dd hd3).2, (own_dd hd4).2⟩))))⟩ ⟨by decide, by decide, by decide, by decide, by decide, by decide, by decide, rfl⟩ rfl (own_memS (own_dd hd0).1 (own_memS (own_dd hd1).1 (own_memS (own_dd hd2).1 (own_memS (own_dd hd3).1 (own_memS (own_dd hd4).1 own_mem0))))) (Nat.le_of_ble_eq_true rfl)) hZ (wi hw 37 rfl) (wi hw 36 rfl) (by decide) (by decide)) (g := (mkF m 169 #[.val (.int p1), .val (.int p2), .val (.int 5), .val (.int x3), .val (.int x4), .val (.ref b101), .unset] [(.ref b103)])) rfl (by rw [hml]; rfl) (argsL := [(.ref b103)]) (rest := []) (lenOf pd_16 rfl) rfl (by show 2 * 0 + _ ≤ _; exact Nat.le_of_eq rfl) (hb hby at_169) (fun _ _ => ⟨rfl, e106, (by decide : 3 + 2 ≤ _), (by decide : 20 + 12 ≤ _)⟩)
  dsimp only [Pt.U, Pt.locs, Pt.cells, Pt.slots] at X108 l108 y108 z108 st108 hQ108
  subst l108 y108 z108
  obtain ⟨xr, rfl, N108q, K108, szx108, T108q⟩ := hQ108
  obtain ⟨h108, e108⟩ : ∃ z, T108.heap = z := ⟨_, rfl⟩
  rw [e108] at K108 T108q
  obtain ⟨tr107, kbr107, Nr107, vsr107, sEr107, sVr107, sCr107, sKr107, scdr107, shpr107, shlr107⟩ := id T108q
  have g_xr : n0 ≤ xr := Nat.le_trans (O106.1 ▸ O106.2.1) szx108
  have sz_xr : h0.size ≤ xr := Nat.le_trans KK106.1 szx108
  have O108 := O106.keep K108 all0
  have KK108 : Keep h0 h108 [] := KK106.trans K108 all0
  have N108 := Fr.app N106 N108q
  obtain ⟨cq109, kq109, q109a, q109b, q109c⟩ := isOf hZ e108 sEr107
  obtain ⟨_, _, ⟨T109, L109, k109, n109⟩, -, X109, ⟨Lc109, hQ109, l109, y109, z109⟩, st109⟩ := X108.virtualBack hx (y := y12) (z := y12) hown (mvT hZ (wi hw 115 rfl)) (mvT hZ (wi hw 54 rfl)) (notFace_of_selects (args := #[]) (mvT hZ (wi hw 56 rfl))) (mvT hZ (wi hw 56 rfl)) (mvT hZ (wi hw 55 rfl)) (by decide) (StrChars.Road.lenW (W := 0) hZ (fun d hd => hw d (own_w_lenW d hd)) (kI := 4) (wi hw 6 rfl) sEr107 sVr107 sCr107 sKr107 scdr107 (own_up _ shpr107) (S_CS.ext O108.2) hG1 shlr107 (by decide) (by decide)) q109a q109c (g := (mkF m 176 #[.val (.int p1), .val (.int p2), .val (.int 5), .val (.int x3), .val (.int x4), .val (.ref b101), .val (.ref xr)] [(.ref xr)])) rfl (by rw [hml]; rfl) (Steps.refl _) (argsL := []) (rest := []) (lenOf pd_5 rfl) rfl (by show 2 * 0 + _ ≤ _; exact Nat.le_of_eq rfl) (hb hby at_176) (fun _ _ => ⟨rfl, e108, (by decide : 5 + 0 ≤ _), (by decide : 32 + 0 ≤ _)⟩)
  dsimp only [Pt.U, Pt.locs, Pt.cells, Pt.slots] at X109 l109 y109 z109 st109 hQ109
  subst l109 y109 z109
  obtain ⟨rfl, rfl, hh109⟩ := hQ109
  have N109q : Fr n0 ([] : List Loc) := Fr.nil n0
  have e109 : T109.heap = h108 := hh109
  have N109 := Fr.app N108 N109q
  obtain ⟨_, _, ⟨T110, L110, k110, n110⟩, -, X110, ⟨Lc110, hQ110, l110, y110, z110⟩, st110⟩ := Jvm.LawKit.callS X109 hx (y := y27) hown (mvT hZ (wi hw 116 rfl)) (mvT hZ (wi hw 117 rfl)) (mvT hZ (wi hw 3 rfl)) (mvT hZ (wi hw 118 rfl)) (by decide) (backOf (W := 0) (rmA_lt l Z a0 hw [] G1 G3 xr (0 : Int32) (5 : Int32) p1 0 ([d0, d1, d2, d3, d4] : List Int32) h108 n0 O108 S_CS hG1 S_SF rG3 ⟨_, _, _, _, sEr107, sVr107, sCr107, sKr107, scdr107, shpr107, shlr107⟩ (by decide) (by decide) (Nat.le_of_ble_eq_true rfl) hd0) hZ (wi hw 118 rfl) (wi hw 3 rfl) (by decide) (by decide)) (g := (mkF m 188 #[.val (.int p1), .val (.int p2), .val (.int 5), .val (.int x3), .val (.int x4), .val (.ref b101), .val (.ref xr)] [(.int p1), (.int 5), (.int 0), (.ref xr)])) rfl (by rw [hml]; rfl) (argsL := [(.ref xr), (.int 0), (.int 5), (.int p1)]) (rest := []) (lenOf pd_17 rfl) rfl (by show 2 * 0 + _ ≤ _; exact Nat.le_of_eq rfl) (hb hby at_188) (fun _ _ => ⟨rfl, e109, (by decide : 5 + 0 ≤ _), (by decide : 32 + 0 ≤ _)⟩)
  dsimp only [Pt.U, Pt.locs, Pt.cells, Pt.slots] at X110 l110 y110 z110 st110 hQ110
  subst l110 y110 z110
  obtain ⟨rfl, N110q, hh110⟩ := hQ110
  have e110 : T110.heap = h108 := hh110
  have N110 := Fr.app N109 N110q
  obtain ⟨_, _, ⟨T111, L111, k111, n111⟩, -, X111, ⟨Lc111, hQ111, l111, y111, z111⟩, st111⟩ := Jvm.LawKit.callS X110 hx (y := y27) hown (mvT hZ (wi hw 116 rfl)) (mvT hZ (wi hw 117 rfl)) (mvT hZ (wi hw 3 rfl)) (mvT hZ (wi hw 118 rfl)) (by decide) (backOf (W := 0) (rmA_lt l Z a0 hw [] G1 G3 xr (1 : Int32) (5 : Int32) p1 1 ([d0, d1, d2, d3, d4] : List Int32) h108 n0 O108 S_CS hG1 S_SF rG3 ⟨_, _, _, _, sEr107, sVr107, sCr107, sKr107, scdr107, shpr107, shlr107⟩ (by decide) (by decide) (Nat.le_of_ble_eq_true rfl) hd1) hZ (wi hw 118 rfl) (wi hw 3 rfl) (by decide) (by decide)) (g := (mkF m 199 #[.val (.int p1), .val (.int p2), .val (.int 5), .val (.int x3), .val (.int x4), .val (.ref b101), .val (.ref xr)] [(.int p1), (.int 5), (.int 1), (.ref xr)])) rfl (by rw [hml]; rfl) (argsL := [(.ref xr), (.int 1), (.int 5), (.int p1)]) (rest := []) (lenOf pd_17 rfl) rfl (by show 2 * 0 + _ ≤ _; exact Nat.le_of_eq rfl) (hb hby at_199) (fun _ _ => ⟨rfl, e110, (by decide : 5 + 0 ≤ _), (by decide : 32 + 0 ≤ _)⟩)
  dsimp only [Pt.U, Pt.locs, Pt.cells, Pt.slots] at X111 l111 y111 z111 st111 hQ111
  subst l111 y111 z111
  obtain ⟨rfl, N111q, hh111⟩ := hQ111
  have e111 : T111.heap = h108 := hh111
  have N111 := Fr.app N110 N111q
  obtain ⟨_, _, ⟨T112, L112, k112, n112⟩, -, X112, ⟨Lc112, hQ112, l112, y112, z112⟩, st112⟩ := Jvm.LawKit.callS X111 hx (y := y27) hown (mvT hZ (wi hw 116 rfl)) (mvT hZ (wi hw 117 rfl)) (mvT hZ (wi hw 3 rfl)) (mvT hZ (wi hw 118 rfl)) (by decide) (backOf (W := 0) (rmA_lt l Z a0 hw [] G1 G3 xr (2 : Int32) (5 : Int32) p1 2 ([d0, d1, d2, d3, d4] : List Int32) h108 n0 O108 S_CS hG1 S_SF rG3 ⟨_, _, _, _, sEr107, sVr107, sCr107, sKr107, scdr107, shpr107, shlr107⟩ (by decide) (by decide) (Nat.le_of_ble_eq_true rfl) hd2) hZ (wi hw 118 rfl) (wi hw 3 rfl) (by decide) (by decide)) (g := (mkF m 210 #[.val (.int p1), .val (.int p2), .val (.int 5), .val (.int x3), .val (.int x4), .val (.ref b101), .val (.ref xr)] [(.int p1), (.int 5), (.int 2), (.ref xr)])) rfl (by rw [hml]; rfl) (argsL := [(.ref xr), (.int 2), (.int 5), (.int p1)]) (rest := []) (lenOf pd_17 rfl) rfl (by show 2 * 0 + _ ≤ _; exact Nat.le_of_eq rfl) (hb hby at_210) (fun _ _ => ⟨rfl, e111, (by decide : 5 + 0 ≤ _), (by decide : 32 + 0 ≤ _)⟩)
  dsimp only [Pt.U, Pt.locs, Pt.cells, Pt.slots] at X112 l112 y112 z112 st112 hQ112
  subst l112 y112 z112
  obtain ⟨rfl, N112q, hh112⟩ := hQ112
  have e112 : T112.heap = h108 := hh112
  have N112 := Fr.app N111 N112q
  obtain ⟨_, _, ⟨T113, L113, k113, n113⟩, -, X113, ⟨Lc113, hQ113, l113, y113, z113⟩, st113⟩ := Jvm.LawKit.callS X112 hx (y := y27) hown (mvT hZ (wi hw 116 rfl)) (mvT hZ (wi hw 117 rfl)) (mvT hZ (wi hw 3 rfl)) (mvT hZ (wi hw 118 rfl)) (by decide) (backOf (W := 0) (rmA_lt l Z a0 hw [] G1 G3 xr (3 : Int32) (5 : Int32) p1 3 ([d0, d1, d2, d3, d4] : List Int32) h108 n0 O108 S_CS hG1 S_SF rG3 ⟨_, _, _, _, sEr107, sVr107, sCr107, sKr107, scdr107, shpr107, shlr107⟩ (by decide) (by decide) (Nat.le_of_ble_eq_true rfl) hd3) hZ (wi hw 118 rfl) (wi hw 3 rfl) (by decide) (by decide)) (g := (mkF m 221 #[.val (.int p1), .val (.int p2), .val (.int 5), .val (.int x3), .val (.int x4), .val (.ref b101), .val (.ref xr)] [(.int p1), (.int 5), (.int 3), (.ref xr)])) rfl (by rw [hml]; rfl) (argsL := [(.ref xr), (.int 3), (.int 5), (.int p1)]) (rest := []) (lenOf pd_17 rfl) rfl (by show 2 * 0 + _ ≤ _; exact Nat.le_of_eq rfl) (hb hby at_221) (fun _ _ => ⟨rfl, e112, (by decide : 5 + 0 ≤ _), (by decide : 32 + 0 ≤ _)⟩)
  dsimp only [Pt.U, Pt.locs, Pt.cells, Pt.slots] at X113 l113 y113 z113 st113 hQ113
  subst l113 y113 z113
  obtain ⟨rfl, N113q, hh113⟩ := hQ113
  have e113 : T113.heap = h108 := hh113
  have N113 := Fr.app N112 N113q
  obtain ⟨_, _, ⟨T114, L114, k114, n114⟩, -, X114, ⟨Lc114, hQ114, l114, y114, z114⟩, st114⟩ := Jvm.LawKit.callS X113 hx (y := y27) hown (mvT hZ (wi hw 116 rfl)) (mvT hZ (wi hw 117 rfl)) (mvT hZ (wi hw 3 rfl)) (mvT hZ (wi hw 118 rfl)) (by decide) (backOf (W := 0) (rmA_lt l Z a0 hw [] G1 G3 xr (4 : Int32) (5 : Int32) p1 4 ([d0, d1, d2, d3, d4] : List Int32) h108 n0 O108 S_CS hG1 S_SF rG3 ⟨_, _, _, _, sEr107, sVr107, sCr107, sKr107, scdr107, shpr107, shlr107⟩ (by decide) (by decide) (Nat.le_of_ble_eq_true rfl) hd4) hZ (wi hw 118 rfl) (wi hw 3 rfl) (by decide) (by decide)) (g := (mkF m 232 #[.val (.int p1), .val (.int p2), .val (.int 5), .val (.int x3), .val (.int x4), .val (.ref b101), .val (.ref xr)] [(.int p1), (.int 5), (.int 4), (.ref xr)])) rfl (by rw [hml]; rfl) (argsL := [(.ref xr), (.int 4), (.int 5), (.int p1)]) (rest := []) (lenOf pd_17 rfl) rfl (by show 2 * 0 + _ ≤ _; exact Nat.le_of_eq rfl) (hb hby at_232) (fun _ _ => ⟨rfl, e113, (by decide : 5 + 0 ≤ _), (by decide : 32 + 0 ≤ _)⟩)
  dsimp only [Pt.U, Pt.locs, Pt.cells, Pt.slots] at X114 l114 y114 z114 st114 hQ114
  subst l114 y114 z114
  obtain ⟨rfl, N114q, hh114⟩ := hQ114
  have e114 : T114.heap = h108 := hh114
  have N114 := Fr.app N113 N114q
  obtain ⟨_, _, ⟨T115, L115, k115, n115⟩, -, X115, ⟨Lc115, hQ115, l115, y115, z115⟩, st115⟩ := Jvm.LawKit.callS X114 hx (y := y27) hown (mvT hZ (wi hw 116 rfl)) (mvT hZ (wi hw 117 rfl)) (mvT hZ (wi hw 3 rfl)) (mvT hZ (wi hw 118 rfl)) (by decide) (backOf (W := 0) (rmA_ge l Z a0 hw [] xr (5 : Int32) (5 : Int32) p1 h108 n0 O108 (by decide)) hZ (wi hw 118 rfl) (wi hw 3 rfl) (by decide) (by decide)) (g := (mkF m 243 #[.val (.int p1), .val (.int p2), .val (.int 5), .val (.int x3), .val (.int x4), .val (.ref b101), .val (.ref xr)] [(.int p1), (.int 5), (.int 5), (.ref xr)])) rfl (by rw [hml]; rfl) (argsL := [(.ref xr), (.int 5), (.int 5), (.int p1)]) (rest := []) (lenOf pd_17 rfl) rfl (by show 2 * 0 + _ ≤ _; exact Nat.le_of_eq rfl) (hb hby at_243) (fun _ _ => ⟨rfl, e114, (by decide : 5 + 0 ≤ _), (by decide : 32 + 0 ≤ _)⟩)
  dsimp only [Pt.U, Pt.locs, Pt.cells, Pt.slots] at X115 l115 y115 z115 st115 hQ115
  subst l115 y115 z115
  obtain ⟨rfl, N115q, hh115⟩ := hQ115
  have e115 : T115.heap = h108 := hh115
  have N115 := Fr.app N114 N115q
  obtain ⟨fs, hr, hrun, hended, hW, hsame⟩ := X115.leave (v := some (.int 1)) (fun h => by rw [Bd.returns] at h; cases h)
  refine ⟨_, _, pre0 _ ?_, hrun, hended, _, _, rfl, ?_, ⟨_, rfl⟩, hW, hsame.mono (by decide) (by decide)⟩
  · show Steps p.tables e below (s₁.setTop (mkF m 0 #[.val (.int p1), .val (.int p2), .unset, .unset, .unset, .unset, .unset] [])) _
    refine XS.iloadN X0.here hx rfl (hb hby at_0) rfl ?_
    refine XS.bipush X0.here hx rfl (hb hby at_1) ?_
    refine XS.iand X0.here hx rfl (hb hby at_3) rfl ?_
    show Steps p.tables e below (s₁.setTop (mkF m 4 #[.val (.int p1), .val (.int p2), .unset, .unset, .unset, .unset, .unset] [(.int (p2 &&& (7 : Int32)))])) _
    refine XS.bipush X0.here hx rfl (hb hby at_4) ?_
    refine XS.irem X0.here hx rfl (hb hby at_6) rfl (by decide) ?_
    refine XS.iconst X0.here hx rfl (hb hby at_7) ?_
    show Steps p.tables e below (s₁.setTop (mkF m 8 #[.val (.int p1), .val (.int p2), .unset, .unset, .unset, .unset, .unset] [(.int 1), (.int (irm (p2 &&& (7 : Int32)) (6 : Int32)))])) _
    refine XS.iadd X0.here hx rfl (hb hby at_8) rfl ?_
    show Steps p.tables e below (s₁.setTop (mkF m 9 #[.val (.int p1), .val (.int p2), .unset, .unset, .unset, .unset, .unset] [(.int ((irm (p2 &&& (7 : Int32)) (6 : Int32)) + (1 : Int32)))])) _
    rw [hm]
    show Steps p.tables e below (s₁.setTop (mkF m 9 #[.val (.int p1), .val (.int p2), .unset, .unset, .unset, .unset, .unset] [(.int 5)])) _
    refine XS.istoreN X0.here hx rfl (hb hby at_9) rfl (l' := #[.val (.int p1), .val (.int p2), .val (.int 5), .unset, .unset, .unset, .unset]) rfl ?_
    show Steps p.tables e below (s₁.setTop (mkF m 10 #[.val (.int p1), .val (.int p2), .val (.int 5), .unset, .unset, .unset, .unset] [])) _
    refine seg10 X0 hx hby p1 p2 (5 : Int32) x3 h3 ?_
    show Steps p.tables e below (s₁.setTop (mkF m 22 #[.val (.int p1), .val (.int p2), .val (.int 5), .unset, .unset, .unset, .unset] [(.int x3)])) _
    refine XS.istoreN X0.here hx rfl (hb hby at_22) rfl (l' := #[.val (.int p1), .val (.int p2), .val (.int 5), .val (.int x3), .unset, .unset, .unset]) rfl ?_
    show Steps p.tables e below (s₁.setTop (mkF m 23 #[.val (.int p1), .val (.int p2), .val (.int 5), .val (.int x3), .unset, .unset, .unset] [])) _
    refine seg23 X0 hx hby p1 p2 (5 : Int32) x3 x4 h4 ?_
    show Steps p.tables e below (s₁.setTop (mkF m 35 #[.val (.int p1), .val (.int p2), .val (.int 5), .val (.int x3), .unset, .unset, .unset] [(.int x4)])) _
    refine XS.istore X0.here hx rfl (hb hby at_35) rfl (l' := #[.val (.int p1), .val (.int p2), .val (.int 5), .val (.int x3), .val (.int x4), .unset, .unset]) rfl ?_
    show Steps p.tables e below (s₁.setTop (mkF m 37 #[.val (.int p1), .val (.int p2), .val (.int 5), .val (.int x3), .val (.int x4), .unset, .unset] [])) _
    refine st101 _ ?_
    show Steps p.tables e below (T101.setTop (mkF m 119 #[.val (.int p1), .val (.int p2), .val (.int 5), .val (.int x3), .val (.int x4), .val (.ref b101), .unset] [])) _
    refine st102 _ ?_
    show Steps p.tables e below (T102.setTop (mkF m 160 #[.val (.int p1), .val (.int p2), .val (.int 5), .val (.int x3), .val (.int x4), .val (.ref b101), .unset] [])) _
    refine st103 _ ?_
    show Steps p.tables e below (T103.setTop (mkF m 163 #[.val (.int p1), .val (.int p2), .val (.int 5), .val (.int x3), .val (.int x4), .val (.ref b101), .unset] [(.ref b103)])) _
    refine XS.dup X103.here hx rfl (hb hby at_163) rfl rfl ?_
    refine XS.aload X103.here hx rfl (hb hby at_164) rfl rfl ?_
    show Steps p.tables e below (T103.setTop (mkF m 166 #[.val (.int p1), .val (.int p2), .val (.int 5), .val (.int x3), .val (.int x4), .val (.ref b101), .unset] [(.ref b101), (.ref b103), (.ref b103)])) _
    refine st106.trans ?_
    show Steps p.tables e below (T106.setTop (mkF m 169 #[.val (.int p1), .val (.int p2), .val (.int 5), .val (.int x3), .val (.int x4), .val (.ref b101), .unset] [(.ref b103)])) _
    refine st108 _ ?_
    show Steps p.tables e below (T108.setTop (mkF m 172 #[.val (.int p1), .val (.int p2), .val (.int 5), .val (.int x3), .val (.int x4), .val (.ref b101), .unset] [(.ref xr)])) _
    refine XS.astore X108.here hx rfl (hb hby at_172) rfl rfl (l' := #[.val (.int p1), .val (.int p2), .val (.int 5), .val (.int x3), .val (.int x4), .val (.ref b101), .val (.ref xr)]) rfl ?_
    refine XS.aload X108.here hx rfl (hb hby at_174) rfl rfl ?_
    show Steps p.tables e below (T108.setTop (mkF m 176 #[.val (.int p1), .val (.int p2), .val (.int 5), .val (.int x3), .val (.int x4), .val (.ref b101), .val (.ref xr)] [(.ref xr)])) _
    refine st109.trans ?_
    show Steps p.tables e below (T109.setTop (mkF m 179 #[.val (.int p1), .val (.int p2), .val (.int 5), .val (.int x3), .val (.int x4), .val (.ref b101), .val (.ref xr)] [(.int 5)])) _
    refine XS.iloadN X109.here hx rfl (hb hby at_179) rfl ?_
    refine XS.icmpNo X109.here hx rfl (hb hby at_180) rfl (teq (by decide : (5 : Int32) = (5 : Int32))).2 ?_
    refine XS.aload X109.here hx rfl (hb hby at_183) rfl rfl ?_
    show Steps p.tables e below (T109.setTop (mkF m 185 #[.val (.int p1), .val (.int p2), .val (.int 5), .val (.int x3), .val (.int x4), .val (.ref b101), .val (.ref xr)] [(.ref xr)])) _
    refine XS.iconst X109.here hx rfl (hb hby at_185) ?_
    refine XS.iloadN X109.here hx rfl (hb hby at_186) rfl ?_
    refine XS.iloadN X109.here hx rfl (hb hby at_187) rfl ?_
    show Steps p.tables e below (T109.setTop (mkF m 188 #[.val (.int p1), .val (.int p2), .val (.int 5), .val (.int x3), .val (.int x4), .val (.ref b101), .val (.ref xr)] [(.int p1), (.int 5), (.int 0), (.ref xr)])) _
    refine st110 _ ?_
    show Steps p.tables e below (T110.setTop (mkF m 191 #[.val (.int p1), .val (.int p2), .val (.int 5), .val (.int x3), .val (.int x4), .val (.ref b101), .val (.ref xr)] [(.int 1)])) _
    refine XS.ifNo X110.here hx rfl (hb hby at_191) rfl ((if0 _ _).trans (feq (by decide : ¬ ((1 : Int32) = (0 : Int32)))).1) ?_
    refine XS.aload X110.here hx rfl (hb hby at_194) rfl rfl ?_
    refine XS.iconst X110.here hx rfl (hb hby at_196) ?_
    show Steps p.tables e below (T110.setTop (mkF m 197 #[.val (.int p1), .val (.int p2), .val (.int 5), .val (.int x3), .val (.int x4), .val (.ref b101), .val (.ref xr)] [(.int 1), (.ref xr)])) _
    refine XS.iloadN X110.here hx rfl (hb hby at_197) rfl ?_
    refine XS.iloadN X110.here hx rfl (hb hby at_198) rfl ?_
    show Steps p.tables e below (T110.setTop (mkF m 199 #[.val (.int p1), .val (.int p2), .val (.int 5), .val (.int x3), .val (.int x4), .val (.ref b101), .val (.ref xr)] [(.int p1), (.int 5), (.int 1), (.ref xr)])) _
    refine st111 _ ?_
    show Steps p.tables e below (T111.setTop (mkF m 202 #[.val (.int p1), .val (.int p2), .val (.int 5), .val (.int x3), .val (.int x4), .val (.ref b101), .val (.ref xr)] [(.int 1)])) _
    refine XS.ifNo X111.here hx rfl (hb hby at_202) rfl ((if0 _ _).trans (feq (by decide : ¬ ((1 : Int32) = (0 : Int32)))).1) ?_
    refine XS.aload X111.here hx rfl (hb hby at_205) rfl rfl ?_
    refine XS.iconst X111.here hx rfl (hb hby at_207) ?_
    show Steps p.tables e below (T111.setTop (mkF m 208 #[.val (.int p1), .val (.int p2), .val (.int 5), .val (.int x3), .val (.int x4), .val (.ref b101), .val (.ref xr)] [(.int 2), (.ref xr)])) _
    refine XS.iloadN X111.here hx rfl (hb hby at_208) rfl ?_
    refine XS.iloadN X111.here hx rfl (hb hby at_209) rfl ?_
    show Steps p.tables e below (T111.setTop (mkF m 210 #[.val (.int p1), .val (.int p2), .val (.int 5), .val (.int x3), .val (.int x4), .val (.ref b101), .val (.ref xr)] [(.int p1), (.int 5), (.int 2), (.ref xr)])) _
    refine st112 _ ?_
    show Steps p.tables e below (T112.setTop (mkF m 213 #[.val (.int p1), .val (.int p2), .val (.int 5), .val (.int x3), .val (.int x4), .val (.ref b101), .val (.ref xr)] [(.int 1)])) _
    refine XS.ifNo X112.here hx rfl (hb hby at_213) rfl ((if0 _ _).trans (feq (by decide : ¬ ((1 : Int32) = (0 : Int32)))).1) ?_
    refine XS.aload X112.here hx rfl (hb hby at_216) rfl rfl ?_
    refine XS.iconst X112.here hx rfl (hb hby at_218) ?_
    show Steps p.tables e below (T112.setTop (mkF m 219 #[.val (.int p1), .val (.int p2), .val (.int 5), .val (.int x3), .val (.int x4), .val (.ref b101), .val (.ref xr)] [(.int 3), (.ref xr)])) _
    refine XS.iloadN X112.here hx rfl (hb hby at_219) rfl ?_
    refine XS.iloadN X112.here hx rfl (hb hby at_220) rfl ?_
    show Steps p.tables e below (T112.setTop (mkF m 221 #[.val (.int p1), .val (.int p2), .val (.int 5), .val (.int x3), .val (.int x4), .val (.ref b101), .val (.ref xr)] [(.int p1), (.int 5), (.int 3), (.ref xr)])) _
    refine st113 _ ?_
    show Steps p.tables e below (T113.setTop (mkF m 224 #[.val (.int p1), .val (.int p2), .val (.int 5), .val (.int x3), .val (.int x4), .val (.ref b101), .val (.ref xr)] [(.int 1)])) _
    refine XS.ifNo X113.here hx rfl (hb hby at_224) rfl ((if0 _ _).trans (feq (by decide : ¬ ((1 : Int32) = (0 : Int32)))).1) ?_
    refine XS.aload X113.here hx rfl (hb hby at_227) rfl rfl ?_
    refine XS.iconst X113.here hx rfl (hb hby at_229) ?_
    show Steps p.tables e below (T113.setTop (mkF m 230 #[.val (.int p1), .val (.int p2), .val (.int 5), .val (.int x3), .val (.int x4), .val (.ref b101), .val (.ref xr)] [(.int 4), (.ref xr)])) _
    refine XS.iloadN X113.here hx rfl (hb hby at_230) rfl ?_
    refine XS.iloadN X113.here hx rfl (hb hby at_231) rfl ?_
    show Steps p.tables e below (T113.setTop (mkF m 232 #[.val (.int p1), .val (.int p2), .val (.int 5), .val (.int x3), .val (.int x4), .val (.ref b101), .val (.ref xr)] [(.int p1), (.int 5), (.int 4), (.ref xr)])) _
    refine st114 _ ?_
    show Steps p.tables e below (T114.setTop (mkF m 235 #[.val (.int p1), .val (.int p2), .val (.int 5), .val (.int x3), .val (.int x4), .val (.ref b101), .val (.ref xr)] [(.int 1)])) _
    refine XS.ifNo X114.here hx rfl (hb hby at_235) rfl ((if0 _ _).trans (feq (by decide : ¬ ((1 : Int32) = (0 : Int32)))).1) ?_
    refine XS.aload X114.here hx rfl (hb hby at_238) rfl rfl ?_
    refine XS.iconst X114.here hx rfl (hb hby at_240) ?_
    show Steps p.tables e below (T114.setTop (mkF m 241 #[.val (.int p1), .val (.int p2), .val (.int 5), .val (.int x3), .val (.int x4), .val (.ref b101), .val (.ref xr)] [(.int 5), (.ref xr)])) _
    refine XS.iloadN X114.here hx rfl (hb hby at_241) rfl ?_
    refine XS.iloadN X114.here hx rfl (hb hby at_242) rfl ?_
    show Steps p.tables e below (T114.setTop (mkF m 243 #[.val (.int p1), .val (.int p2), .val (.int 5), .val (.int x3), .val (.int x4), .val (.ref b101), .val (.ref xr)] [(.int p1), (.int 5), (.int 5), (.ref xr)])) _
    refine st115 _ ?_
    show Steps p.tables e below (T115.setTop (mkF m 246 #[.val (.int p1), .val (.int p2), .val (.int 5), .val (.int x3), .val (.int x4), .val (.ref b101), .val (.ref xr)] [(.int 1)])) _
    refine XS.ifNo X115.here hx rfl (hb hby at_246) rfl ((if0 _ _).trans (feq (by decide : ¬ ((1 : Int32) = (0 : Int32)))).1) ?_
    refine XS.iconst X115.here hx rfl (hb hby at_249) ?_
    refine XS.goto X115.here hx rfl (pc0 := 250) (pc' := 254) rfl (hb hby at_250) (by decide) (by decide) ?_
    show Steps p.tables e below (T115.setTop (mkF m 254 #[.val (.int p1), .val (.int p2), .val (.int 5), .val (.int x3), .val (.int x4), .val (.ref b101), .val (.ref xr)] [(.int 1)])) _
    exact retN X115 hx (t := .boolean) Bd.returns (by simp) (hb hby at_254) hr
  · show Q0 h0 n0 _ T115.heap _
    rw [e115]
    exact ⟨rfl, N115⟩
set_option maxRecDepth 65536 in
set_option maxHeartbeats 40000000 in
theorem sg2_600 (l : Launch) (Z : State) (a0 : Array Value) (hw : ∀ d ∈ tables_1, d.before a0 Z = true) (p1 p2 x3 x4 : Int32) (b : Addr) (kb : ClassId) (d0 d1 d2 d3 d4 d5 d6 d7 : Int32) {p : Program} {e : Env} {s : State} {m : MethodId} {args : Array Value} {below : List Frame} {meth : Method} {c : Code} {T0 : State} {L0 : List Loc} (h0 : Heap) (n0 : Nat) (O0 : Old Z n0 h0) (hx : p.tables.exec = Jvm.exec) (hby : c.code = code) (hml : c.maxLocals = 7) (hown : s.vm.findClass "io/roadcrew/resolve/VersionReaderMajorPinLaw" = some m.cls) (hZ : Z.Warmed39 s.vm) (X0 : Stand p l e room_1 s m args below meth c T0 L0 1 8) (e0 : T0.heap = h0) (N0 : Fr n0 L0) (K : Arv Z h0 b kb .char (8 : Int32) [(.int d0), (.int d1), (.int d2), (.int d3), (.int d4), (.int d5), (.int d6), (.int d7)] (.int (0 : Int32))) (gb : n0 ≤ b) (k3 : x3 = (0 : Int32)) (k4 : x4 = (0 : Int32)) :
    ∃ (T' : State) (h' : Heap) (L' : List Loc), Stand p l e room_1 s m args below meth c T' L' 1 8 ∧ T'.heap = h' ∧ Fr n0 L' ∧ Keep h0 h' [b] ∧ Arv Z h' b kb .char (8 : Int32) [(.int d0), (.int d1), (.int d2), (.int d3), (.int d4), (.int d5), (.int (46 : Int32)), (.int d7)] (.int (0 : Int32)) ∧ (∀ target, Steps p.tables e below (T'.setTop (mkF m 160 #[.val (.int p1), .val (.int p2), .val (.int 6), .val (.int x3), .val (.int x4), .val (.ref b), .unset] [])) target → Steps p.tables e below (T0.setTop (mkF m 119 #[.val (.int p1), .val (.int p2), .val (.int 6), .val (.int x3), .val (.int x4), .val (.ref b), .unset] [])) target) := by
  obtain ⟨cl_b_7, Ar_b_7, q_b_7, S_b_7, N_b_7, H_b_7, G_b_7⟩ := id (K)
  have hinb_7 : ¬ ((6 : Int32) < 0 ∨ cl_b_7.slots.size ≤ ((6 : Int32)).toNatClampNeg) := inb_of S_b_7 ⟨by decide, by decide⟩
  obtain ⟨T101, h101, X101, e101, W101, st101⟩ := stC X0 hx hZ e0 Ar_b_7 (j := (6 : Int32)) hinb_7 (g := (mkF m 124 #[.val (.int p1), .val (.int p2), .val (.int 6), .val (.int x3), .val (.int x4), .val (.ref b), .unset] [(.int 46), (.int 6), (.ref b)])) rfl rfl (hb hby at_124)
  have V_b_101 : Arv Z h101 b kb .char (8 : Int32) [(.int d0), (.int d1), (.int d2), (.int d3), (.int d4), (.int d5), (.int 46), (.int d7)] (.int 0) := Arv.set Ar_b_7 q_b_7 S_b_7 N_b_7 H_b_7 G_b_7 (fits_nar_char _) W101 6 rfl (Nat.le_of_ble_eq_true rfl)
  have O101 := O0.wr W101 gb
  have KK101 : Keep h0 h101 [b] := (Keep.refl h0 [b]).wr W101 (Or.inl (List.mem_of_getElem? (i := 0) rfl))
  have N101 := Fr.snoc X101 N0 gb
  refine ⟨_, _, _, X101, e101, N101, KK101, V_b_101, fun target k => ?_⟩
  show Steps p.tables e below (T0.setTop (mkF m 119 #[.val (.int p1), .val (.int p2), .val (.int 6), .val (.int x3), .val (.int x4), .val (.ref b), .unset] [])) _
  refine XS.aload X0.here hx rfl (hb hby at_119) rfl rfl ?_
  refine XS.iloadN X0.here hx rfl (hb hby at_121) rfl ?_
  refine XS.bipush X0.here hx rfl (hb hby at_122) ?_
  show Steps p.tables e below (T0.setTop (mkF m 124 #[.val (.int p1), .val (.int p2), .val (.int 6), .val (.int x3), .val (.int x4), .val (.ref b), .unset] [(.int 46), (.int 6), (.ref b)])) _
  refine st101 _ ?_
  show Steps p.tables e below (T101.setTop (mkF m 125 #[.val (.int p1), .val (.int p2), .val (.int 6), .val (.int x3), .val (.int x4), .val (.ref b), .unset] [])) _
  refine XS.iloadN X101.here hx rfl (hb hby at_125) rfl ?_
  refine XS.ifYes X101.here hx rfl (pc0 := 126) (pc' := 142) rfl (hb hby at_126) rfl ((if0 _ _).trans (teq k3).1) (by decide) (by decide) ?_
  refine XS.iload X101.here hx rfl (hb hby at_142) rfl ?_
  show Steps p.tables e below (T101.setTop (mkF m 144 #[.val (.int p1), .val (.int p2), .val (.int 6), .val (.int x3), .val (.int x4), .val (.ref b), .unset] [(.int x4)])) _
  refine XS.ifYes X101.here hx rfl (pc0 := 144) (pc' := 160) rfl (hb hby at_144) rfl ((if0 _ _).trans (teq k4).1) (by decide) (by decide) ?_
  exact k
set_option maxRecDepth 65536 in
set_option maxHeartbeats 40000000 in
theorem sg2_601 (l : Launch) (Z : State) (a0 : Array Value) (hw : ∀ d ∈ tables_1, d.before a0 Z = true) (p1 p2 x3 x4 : Int32) (b : Addr) (kb : ClassId) (d0 d1 d2 d3 d4 d5 d6 d7 : Int32) {p : Program} {e : Env} {s : State} {m : MethodId} {args : Array Value} {below : List Frame} {meth : Method} {c : Code} {T0 : State} {L0 : List Loc} (h0 : Heap) (n0 : Nat) (O0 : Old Z n0 h0) (hx : p.tables.exec = Jvm.exec) (hby : c.code = code) (hml : c.maxLocals = 7) (hown : s.vm.findClass "io/roadcrew/resolve/VersionReaderMajorPinLaw" = some m.cls) (hZ : Z.Warmed39 s.vm) (X0 : Stand p l e room_1 s m args below meth c T0 L0 1 8) (e0 : T0.heap = h0) (N0 : Fr n0 L0) (K : Arv Z h0 b kb .char (8 : Int32) [(.int d0), (.int d1), (.int d2), (.int d3), (.int d4), (.int d5), (.int d6), (.int d7)] (.int (0 : Int32))) (gb : n0 ≤ b) (k3 : x3 = (0 : Int32)) (k4 : ¬ (x4 = (0 : Int32))) :
    ∃ (T' : State) (h' : Heap) (L' : List Loc), Stand p l e room_1 s m args below meth c T' L' 1 8 ∧ T'.heap = h' ∧ Fr n0 L' ∧ Keep h0 h' [b] ∧ Arv Z h' b kb .char (8 : Int32) [(.int d0), (.int d1), (.int d2), (.int d3), (.int d4), (.int d5), (.int (46 : Int32)), (.int d7)] (.int (0 : Int32)) ∧ (∀ target, Steps p.tables e below (T'.setTop (mkF m 160 #[.val (.int p1), .val (.int p2), .val (.int 6), .val (.int x3), .val (.int x4), .val (.ref b), .unset] [])) target → Steps p.tables e below (T0.setTop (mkF m 119 #[.val (.int p1), .val (.int p2), .val (.int 6), .val (.int x3), .val (.int x4), .val (.ref b), .unset] [])) target) := by
  obtain ⟨cl_b_7, Ar_b_7, q_b_7, S_b_7, N_b_7, H_b_7, G_b_7⟩ := id (K)
  have hinb_7 : ¬ ((6 : Int32) < 0 ∨ cl_b_7.slots.size ≤ ((6 : Int32)).toNatClampNeg) := inb_of S_b_7 ⟨by decide, by decide⟩
  obtain ⟨T101, h101, X101, e101, W101, st101⟩ := stC X0 hx hZ e0 Ar_b_7 (j := (6 : Int32)) hinb_7 (g := (mkF m 124 #[.val (.int p1), .val (.int p2), .val (.int 6), .val (.int x3), .val (.int x4), .val (.ref b), .unset] [(.int 46), (.int 6), (.ref b)])) rfl rfl (hb hby at_124)
  have V_b_101 : Arv Z h101 b kb .char (8 : Int32) [(.int d0), (.int d1), (.int d2), (.int d3), (.int d4), (.int d5), (.int 46), (.int d7)] (.int 0) := Arv.set Ar_b_7 q_b_7 S_b_7 N_b_7 H_b_7 G_b_7 (fits_nar_char _) W101 6 rfl (Nat.le_of_ble_eq_true rfl)
  have O101 := O0.wr W101 gb
  have KK101 : Keep h0 h101 [b] := (Keep.refl h0 [b]).wr W101 (Or.inl (List.mem_of_getElem? (i := 0) rfl))
  have N101 := Fr.snoc X101 N0 gb
  refine ⟨_, _, _, X101, e101, N101, KK101, V_b_101, fun target k => ?_⟩
  show Steps p.tables e below (T0.setTop (mkF m 119 #[.val (.int p1), .val (.int p2), .val (.int 6), .val (.int x3), .val (.int x4), .val (.ref b), .unset] [])) _
  refine XS.aload X0.here hx rfl (hb hby at_119) rfl rfl ?_
  refine XS.iloadN X0.here hx rfl (hb hby at_121) rfl ?_
  refine XS.bipush X0.here hx rfl (hb hby at_122) ?_
  show Steps p.tables e below (T0.setTop (mkF m 124 #[.val (.int p1), .val (.int p2), .val (.int 6), .val (.int x3), .val (.int x4), .val (.ref b), .unset] [(.int 46), (.int 6), (.ref b)])) _
  refine st101 _ ?_
  show Steps p.tables e below (T101.setTop (mkF m 125 #[.val (.int p1), .val (.int p2), .val (.int 6), .val (.int x3), .val (.int x4), .val (.ref b), .unset] [])) _
  refine XS.iloadN X101.here hx rfl (hb hby at_125) rfl ?_
  refine XS.ifYes X101.here hx rfl (pc0 := 126) (pc' := 142) rfl (hb hby at_126) rfl ((if0 _ _).trans (teq k3).1) (by decide) (by decide) ?_
  refine XS.iload X101.here hx rfl (hb hby at_142) rfl ?_
  show Steps p.tables e below (T101.setTop (mkF m 144 #[.val (.int p1), .val (.int p2), .val (.int 6), .val (.int x3), .val (.int x4), .val (.ref b), .unset] [(.int x4)])) _
  refine XS.ifNo X101.here hx rfl (hb hby at_144) rfl ((if0 _ _).trans (feq k4).1) ?_
  refine XS.iloadN X101.here hx rfl (hb hby at_147) rfl ?_
  refine XS.iconst X101.here hx rfl (hb hby at_148) ?_
  show Steps p.tables e below (T101.setTop (mkF m 149 #[.val (.int p1), .val (.int p2), .val (.int 6), .val (.int x3), .val (.int x4), .val (.ref b), .unset] [(.int 2), (.int 6)])) _
  refine XS.icmpYes X101.here hx rfl (pc0 := 149) (pc' := 160) rfl (hb hby at_149) rfl (tlt (by decide : (2 : Int32) < (6 : Int32))).2.2.1 (by decide) (by decide) ?_
  exact k
set_option maxRecDepth 65536 in
set_option maxHeartbeats 40000000 in
theorem sg2_610 (l : Launch) (Z : State) (a0 : Array Value) (hw : ∀ d ∈ tables_1, d.before a0 Z = true) (p1 p2 x3 x4 : Int32) (b : Addr) (kb : ClassId) (d0 d1 d2 d3 d4 d5 d6 d7 : Int32) {p : Program} {e : Env} {s : State} {m : MethodId} {args : Array Value} {below : List Frame} {meth : Method} {c : Code} {T0 : State} {L0 : List Loc} (h0 : Heap) (n0 : Nat) (O0 : Old Z n0 h0) (hx : p.tables.exec = Jvm.exec) (hby : c.code = code) (hml : c.maxLocals = 7) (hown : s.vm.findClass "io/roadcrew/resolve/VersionReaderMajorPinLaw" = some m.cls) (hZ : Z.Warmed39 s.vm) (X0 : Stand p l e room_1 s m args below meth c T0 L0 1 8) (e0 : T0.heap = h0) (N0 : Fr n0 L0) (K : Arv Z h0 b kb .char (8 : Int32) [(.int d0), (.int d1), (.int d2), (.int d3), (.int d4), (.int d5), (.int d6), (.int d7)] (.int (0 : Int32))) (gb : n0 ≤ b) (k3 : ¬ (x3 = (0 : Int32))) (k4 : x4 = (0 : Int32)) :
    ∃ (T' : State) (h' : Heap) (L' : List Loc), Stand p l e room_1 s m args below meth c T' L' 1 8 ∧ T'.heap = h' ∧ Fr n0 L' ∧ Keep h0 h' [b] ∧ Arv Z h' b kb .char (8 : Int32) [(.int d0), (.int d1), (.int d2), (.int d3), (.int d4), (.int d5), (.int (46 : Int32)), (.int d7)] (.int (0 : Int32)) ∧ (∀ target, Steps p.tables e below (T'.setTop (mkF m 160 #[.val (.int p1), .val (.int p2), .val (.int 6), .val (.int x3), .val (.int x4), .val (.ref b), .unset] [])) target → Steps p.tables e below (T0.setTop (mkF m 119 #[.val (.int p1), .val (.int p2), .val (.int 6), .val (.int x3), .val (.int x4), .val (.ref b), .unset] [])) target) := by
  obtain ⟨cl_b_7, Ar_b_7, q_b_7, S_b_7, N_b_7, H_b_7, G_b_7⟩ := id (K)
  have hinb_7 : ¬ ((6 : Int32) < 0 ∨ cl_b_7.slots.size ≤ ((6 : Int32)).toNatClampNeg) := inb_of S_b_7 ⟨by decide, by decide⟩
  obtain ⟨T101, h101, X101, e101, W101, st101⟩ := stC X0 hx hZ e0 Ar_b_7 (j := (6 : Int32)) hinb_7 (g := (mkF m 124 #[.val (.int p1), .val (.int p2), .val (.int 6), .val (.int x3), .val (.int x4), .val (.ref b), .unset] [(.int 46), (.int 6), (.ref b)])) rfl rfl (hb hby at_124)
  have V_b_101 : Arv Z h101 b kb .char (8 : Int32) [(.int d0), (.int d1), (.int d2), (.int d3), (.int d4), (.int d5), (.int 46), (.int d7)] (.int 0) := Arv.set Ar_b_7 q_b_7 S_b_7 N_b_7 H_b_7 G_b_7 (fits_nar_char _) W101 6 rfl (Nat.le_of_ble_eq_true rfl)
  have O101 := O0.wr W101 gb
  have KK101 : Keep h0 h101 [b] := (Keep.refl h0 [b]).wr W101 (Or.inl (List.mem_of_getElem? (i := 0) rfl))
  have N101 := Fr.snoc X101 N0 gb
  refine ⟨_, _, _, X101, e101, N101, KK101, V_b_101, fun target k => ?_⟩
  show Steps p.tables e below (T0.setTop (mkF m 119 #[.val (.int p1), .val (.int p2), .val (.int 6), .val (.int x3), .val (.int x4), .val (.ref b), .unset] [])) _
  refine XS.aload X0.here hx rfl (hb hby at_119) rfl rfl ?_
  refine XS.iloadN X0.here hx rfl (hb hby at_121) rfl ?_
  refine XS.bipush X0.here hx rfl (hb hby at_122) ?_
  show Steps p.tables e below (T0.setTop (mkF m 124 #[.val (.int p1), .val (.int p2), .val (.int 6), .val (.int x3), .val (.int x4), .val (.ref b), .unset] [(.int 46), (.int 6), (.ref b)])) _
  refine st101 _ ?_
  show Steps p.tables e below (T101.setTop (mkF m 125 #[.val (.int p1), .val (.int p2), .val (.int 6), .val (.int x3), .val (.int x4), .val (.ref b), .unset] [])) _
  refine XS.iloadN X101.here hx rfl (hb hby at_125) rfl ?_
  refine XS.ifNo X101.here hx rfl (hb hby at_126) rfl ((if0 _ _).trans (feq k3).1) ?_
  refine XS.iloadN X101.here hx rfl (hb hby at_129) rfl ?_
  show Steps p.tables e below (T101.setTop (mkF m 130 #[.val (.int p1), .val (.int p2), .val (.int 6), .val (.int x3), .val (.int x4), .val (.ref b), .unset] [(.int 6)])) _
  refine XS.iconst X101.here hx rfl (hb hby at_130) ?_
  refine XS.icmpYes X101.here hx rfl (pc0 := 131) (pc' := 142) rfl (hb hby at_131) rfl (tlt (by decide : (4 : Int32) < (6 : Int32))).2.2.1 (by decide) (by decide) ?_
  refine XS.iload X101.here hx rfl (hb hby at_142) rfl ?_
  show Steps p.tables e below (T101.setTop (mkF m 144 #[.val (.int p1), .val (.int p2), .val (.int 6), .val (.int x3), .val (.int x4), .val (.ref b), .unset] [(.int x4)])) _
  refine XS.ifYes X101.here hx rfl (pc0 := 144) (pc' := 160) rfl (hb hby at_144) rfl ((if0 _ _).trans (teq k4).1) (by decide) (by decide) ?_
  exact k
set_option maxRecDepth 65536 in
set_option maxHeartbeats 40000000 in
theorem sg2_611 (l : Launch) (Z : State) (a0 : Array Value) (hw : ∀ d ∈ tables_1, d.before a0 Z = true) (p1 p2 x3 x4 : Int32) (b : Addr) (kb : ClassId) (d0 d1 d2 d3 d4 d5 d6 d7 : Int32) {p : Program} {e : Env} {s : State} {m : MethodId} {args : Array Value} {below : List Frame} {meth : Method} {c : Code} {T0 : State} {L0 : List Loc} (h0 : Heap) (n0 : Nat) (O0 : Old Z n0 h0) (hx : p.tables.exec = Jvm.exec) (hby : c.code = code) (hml : c.maxLocals = 7) (hown : s.vm.findClass "io/roadcrew/resolve/VersionReaderMajorPinLaw" = some m.cls) (hZ : Z.Warmed39 s.vm) (X0 : Stand p l e room_1 s m args below meth c T0 L0 1 8) (e0 : T0.heap = h0) (N0 : Fr n0 L0) (K : Arv Z h0 b kb .char (8 : Int32) [(.int d0), (.int d1), (.int d2), (.int d3), (.int d4), (.int d5), (.int d6), (.int d7)] (.int (0 : Int32))) (gb : n0 ≤ b) (k3 : ¬ (x3 = (0 : Int32))) (k4 : ¬ (x4 = (0 : Int32))) :
    ∃ (T' : State) (h' : Heap) (L' : List Loc), Stand p l e room_1 s m args below meth c T' L' 1 8 ∧ T'.heap = h' ∧ Fr n0 L' ∧ Keep h0 h' [b] ∧ Arv Z h' b kb .char (8 : Int32) [(.int d0), (.int d1), (.int d2), (.int d3), (.int d4), (.int d5), (.int (46 : Int32)), (.int d7)] (.int (0 : Int32)) ∧ (∀ target, Steps p.tables e below (T'.setTop (mkF m 160 #[.val (.int p1), .val (.int p2), .val (.int 6), .val (.int x3), .val (.int x4), .val (.ref b), .unset] [])) target → Steps p.tables e below (T0.setTop (mkF m 119 #[.val (.int p1), .val (.int p2), .val (.int 6), .val (.int x3), .val (.int x4), .val (.ref b), .unset] [])) target) := by
  obtain ⟨cl_b_7, Ar_b_7, q_b_7, S_b_7, N_b_7, H_b_7, G_b_7⟩ := id (K)
  have hinb_7 : ¬ ((6 : Int32) < 0 ∨ cl_b_7.slots.size ≤ ((6 : Int32)).toNatClampNeg) := inb_of S_b_7 ⟨by decide, by decide⟩
  obtain ⟨T101, h101, X101, e101, W101, st101⟩ := stC X0 hx hZ e0 Ar_b_7 (j := (6 : Int32)) hinb_7 (g := (mkF m 124 #[.val (.int p1), .val (.int p2), .val (.int 6), .val (.int x3), .val (.int x4), .val (.ref b), .unset] [(.int 46), (.int 6), (.ref b)])) rfl rfl (hb hby at_124)
  have V_b_101 : Arv Z h101 b kb .char (8 : Int32) [(.int d0), (.int d1), (.int d2), (.int d3), (.int d4), (.int d5), (.int 46), (.int d7)] (.int 0) := Arv.set Ar_b_7 q_b_7 S_b_7 N_b_7 H_b_7 G_b_7 (fits_nar_char _) W101 6 rfl (Nat.le_of_ble_eq_true rfl)
  have O101 := O0.wr W101 gb
  have KK101 : Keep h0 h101 [b] := (Keep.refl h0 [b]).wr W101 (Or.inl (List.mem_of_getElem? (i := 0) rfl))
  have N101 := Fr.snoc X101 N0 gb
  refine ⟨_, _, _, X101, e101, N101, KK101, V_b_101, fun target k => ?_⟩
  show Steps p.tables e below (T0.setTop (mkF m 119 #[.val (.int p1), .val (.int p2), .val (.int 6), .val (.int x3), .val (.int x4), .val (.ref b), .unset] [])) _
  refine XS.aload X0.here hx rfl (hb hby at_119) rfl rfl ?_
  refine XS.iloadN X0.here hx rfl (hb hby at_121) rfl ?_
  refine XS.bipush X0.here hx rfl (hb hby at_122) ?_
  show Steps p.tables e below (T0.setTop (mkF m 124 #[.val (.int p1), .val (.int p2), .val (.int 6), .val (.int x3), .val (.int x4), .val (.ref b), .unset] [(.int 46), (.int 6), (.ref b)])) _
  refine st101 _ ?_
  show Steps p.tables e below (T101.setTop (mkF m 125 #[.val (.int p1), .val (.int p2), .val (.int 6), .val (.int x3), .val (.int x4), .val (.ref b), .unset] [])) _
  refine XS.iloadN X101.here hx rfl (hb hby at_125) rfl ?_
  refine XS.ifNo X101.here hx rfl (hb hby at_126) rfl ((if0 _ _).trans (feq k3).1) ?_
  refine XS.iloadN X101.here hx rfl (hb hby at_129) rfl ?_
  show Steps p.tables e below (T101.setTop (mkF m 130 #[.val (.int p1), .val (.int p2), .val (.int 6), .val (.int x3), .val (.int x4), .val (.ref b), .unset] [(.int 6)])) _
  refine XS.iconst X101.here hx rfl (hb hby at_130) ?_
  refine XS.icmpYes X101.here hx rfl (pc0 := 131) (pc' := 142) rfl (hb hby at_131) rfl (tlt (by decide : (4 : Int32) < (6 : Int32))).2.2.1 (by decide) (by decide) ?_
  refine XS.iload X101.here hx rfl (hb hby at_142) rfl ?_
  show Steps p.tables e below (T101.setTop (mkF m 144 #[.val (.int p1), .val (.int p2), .val (.int 6), .val (.int x3), .val (.int x4), .val (.ref b), .unset] [(.int x4)])) _
  refine XS.ifNo X101.here hx rfl (hb hby at_144) rfl ((if0 _ _).trans (feq k4).1) ?_
  refine XS.iloadN X101.here hx rfl (hb hby at_147) rfl ?_
  refine XS.iconst X101.here hx rfl (hb hby at_148) ?_
  show Steps p.tables e below (T101.setTop (mkF m 149 #[.val (.int p1), .val (.int p2), .val (.int 6), .val (.int x3), .val (.int x4), .val (.ref b), .unset] [(.int 2), (.int 6)])) _
  refine XS.icmpYes X101.here hx rfl (pc0 := 149) (pc' := 160) rfl (hb hby at_149) rfl (tlt (by decide : (2 : Int32) < (6 : Int32))).2.2.1 (by decide) (by decide) ?_
  exact k
theorem sg2_6 (l : Launch) (Z : State) (a0 : Array Value) (hw : ∀ d ∈ tables_1, d.before a0 Z = true) (p1 p2 x3 x4 f2 f4 : Int32) (b : Addr) (kb : ClassId) (d0 d1 d2 d3 d4 d5 d6 d7 : Int32) {p : Program} {e : Env} {s : State} {m : MethodId} {args : Array Value} {below : List Frame} {meth : Method} {c : Code} {T0 : State} {L0 : List Loc} (h0 : Heap) (n0 : Nat) (O0 : Old Z n0 h0) (hx : p.tables.exec = Jvm.exec) (hby : c.code = code) (hml : c.maxLocals = 7) (hown : s.vm.findClass "io/roadcrew/resolve/VersionReaderMajorPinLaw" = some m.cls) (hZ : Z.Warmed39 s.vm) (X0 : Stand p l e room_1 s m args below meth c T0 L0 1 8) (e0 : T0.heap = h0) (N0 : Fr n0 L0) (K : Arv Z h0 b kb .char (8 : Int32) [(.int d0), (.int d1), (.int d2), (.int d3), (.int d4), (.int d5), (.int d6), (.int d7)] (.int (0 : Int32))) (gb : n0 ≤ b) :
    ∃ (T' : State) (h' : Heap) (L' : List Loc), Stand p l e room_1 s m args below meth c T' L' 1 8 ∧ T'.heap = h' ∧ Fr n0 L' ∧ Keep h0 h' [b] ∧ Arv Z h' b kb .char (8 : Int32) [(.int d0), (.int d1), (.int d2), (.int d3), (.int d4), (.int d5), (.int (46 : Int32)), (.int d7)] (.int (0 : Int32)) ∧ (∀ target, Steps p.tables e below (T'.setTop (mkF m 160 #[.val (.int p1), .val (.int p2), .val (.int 6), .val (.int x3), .val (.int x4), .val (.ref b), .unset] [])) target → Steps p.tables e below (T0.setTop (mkF m 119 #[.val (.int p1), .val (.int p2), .val (.int 6), .val (.int x3), .val (.int x4), .val (.ref b), .unset] [])) target) := by
  by_cases k3 : x3 = (0 : Int32)
  · skip
    by_cases k4 : x4 = (0 : Int32)
    · exact sg2_600 l Z a0 hw p1 p2 x3 x4 b kb d0 d1 d2 d3 d4 d5 d6 d7 h0 n0 O0 hx hby hml hown hZ X0 e0 N0 K gb k3 k4
    · exact sg2_601 l Z a0 hw p1 p2 x3 x4 b kb d0 d1 d2 d3 d4 d5 d6 d7 h0 n0 O0 hx hby hml hown hZ X0 e0 N0 K gb k3 k4
  · skip
    by_cases k4 : x4 = (0 : Int32)
    · exact sg2_610 l Z a0 hw p1 p2 x3 x4 b kb d0 d1 d2 d3 d4 d5 d6 d7 h0 n0 O0 hx hby hml hown hZ X0 e0 N0 K gb k3 k4
    · exact sg2_611 l Z a0 hw p1 p2 x3 x4 b kb d0 d1 d2 d3 d4 d5 d6 d7 h0 n0 O0 hx hby hml hown hZ X0 e0 N0 K gb k3 k4
set_option maxRecDepth 65536 in
set_option maxHeartbeats 40000000 in
theorem rm0_6 (l : Launch) (Z : State) (a0 : Array Value) (hw : ∀ d ∈ tables_1, d.before a0 Z = true) (ws : List Jvm.Cond) (p1 p2 : Int32) (G1 : Int32) (G3 : Value) (x3 x4 f2 f4 : Int32) (d0 d1 d2 d3 d4 d5 d6 d7 : Int32) (h0 : Heap) (n0 : Nat) (O0 : Old Z n0 h0) (S_CS : Sta Z Z.heap "java/lang/String" "COMPACT_STRINGS" "Z" (.int G1)) (hG1 : ¬ (G1 = (0 : Int32))) (S_SF : Sta Z Z.heap "jdk/internal/util/Preconditions" "SIOOBE_FORMATTER" "Ljava/util/function/BiFunction;" G3) (rG3 : G3.isRef = true) (hd0 : d0 = dig p1 (0 : Int32)) (hd1 : d1 = dig p1 (1 : Int32)) (hd2 : d2 = dig p1 (2 : Int32)) (hd3 : d3 = dig p1 (3 : Int32)) (hd4 : d4 = dig p1 (4 : Int32)) (hd5 : d5 = dig p1 (5 : Int32)) (hd6 : d6 = dig p1 (6 : Int32)) (hd7 : d7 = dig p1 (7 : Int32)) (h3 : x3 = if (p2 &&& (8 : Int32)) = (0 : Int32) then (0 : Int32) else (1 : Int32)) (h4 : x4 = if (p2 &&& (16 : Int32)) = (0 : Int32) then (0 : Int32) else (1 : Int32)) (hm : ((irm (p2 &&& (7 : Int32)) (6 : Int32)) + (1 : Int32)) = (6 : Int32)) :
    MetFree l x (head1 (Jvm.Cond.code x code maxLocals ret :: ws) room_1) (fun a_ U => a_ = #[(.int p1), (.int p2)] ∧ Z.Warmed39 U.vm ∧ U.heap = h0) (fun _ _ _ _ _ => True) (fun _ U o U' => ∃ v L, o = .returned v ∧ Q0 h0 n0 v U'.heap L ∧ FrameEnd U o U' L room_1.cells room_1.slots) := by
  refine MetFree.of_bodySF (plainFor_of_name pn_0) hisR ?_
  intro p e s m args below meth c s₁ Bd hml0 hP hK
  obtain ⟨rfl, hZ, hh⟩ := hP
  have hx := Bd.exec
  have hby := Bd.bytes
  have hml : c.maxLocals = 7 := hml0
  have hown : s.vm.findClass "io/roadcrew/resolve/VersionReaderMajorPinLaw" = some m.cls := findClass_of_methodNamed Bd.named
  have hnm := (name_of_methodNamed Bd.named Bd.method).1
  have X0 : Stand p l e room_1 s m #[(.int p1), (.int p2)] below meth c s₁ [] 0 0 := Stand.of_body Bd
  have e0 : s₁.heap = h0 := by rw [← hh, Bd.state]; rfl
  have N0 := Fr.nil n0
  have pre0 : ∀ tg, Steps p.tables e below (s₁.setTop (mkF m 0 #[.val (.int p1), .val (.int p2), .unset, .unset, .unset, .unset, .unset] [])) tg → Steps p.tables e below (s₁.setTop (entryFrame m #[(.int p1), (.int p2)] maxLocals)) tg := fun tg kq => castTop (ef_II_7m m p1 p2) kq
  obtain ⟨T101, h101, L101, b101, kb101, X101, e101, Ns101, K101, szb101, Vb101, st101⟩ := sg1 l Z a0 hw p1 p2 (6 : Int32) x3 x4 d0 d1 d2 d3 d4 d5 d6 d7 h0 n0 O0 hx hby hml hown hZ X0 e0 N0 hd0 hd1 hd2 hd3 hd4 hd5 hd6 hd7
  have g_b101 : n0 ≤ b101 := Nat.le_trans (O0.1 ▸ O0.2.1) szb101
  have sz_b101 : h0.size ≤ b101 := Nat.le_trans (Nat.le_refl _) szb101
  have O101 := O0.keep K101 all0
  have KK101 : Keep h0 h101 [] := (Keep.refl h0 []).trans K101 all0
  obtain ⟨T102, h102, L102, X102, e102, Ns102, K102, Vc102, st102⟩ := sg2_6 l Z a0 hw p1 p2 x3 x4 f2 f4 b101 kb101 d0 d1 d2 d3 d4 d5 d6 d7 h101 n0 O101 hx hby hml hown hZ X101 e101 Ns101 Vb101 g_b101 
  have O102 := O101.keep K102 (allS g_b101 all0)
  have KK102 : Keep h0 h102 [] := KK101.trans K102 (allS (Or.inr sz_b101) all0)
  obtain ⟨T103, h103, X103, e103, E103, A103, D103, -, st103⟩ := newO X102 hx hZ hown (wi hw 5 rfl) (wi hw 6 rfl) (wi hw 7 rfl) e102 (g := (mkF m 160 #[.val (.int p1), .val (.int p2), .val (.int 6), .val (.int x3), .val (.int x4), .val (.ref b101), .unset] [])) rfl (hb hby at_160) (by decide) (by decide)
  obtain ⟨b103, g103⟩ : ∃ z, z = h102.size := ⟨_, rfl⟩
  rw [← g103] at A103 D103 st103
  have g_b103 : n0 ≤ b103 := Nat.le_trans (O102.1 ▸ O102.2.1) (Nat.le_of_eq g103.symm)
  have sz_b103 : h0.size ≤ b103 := Nat.le_trans KK102.1 (Nat.le_of_eq g103.symm)
  have O103 := O102.ext E103
  have KK103 : Keep h0 h103 [] := KK102.ext E103
  have F_coder_b103 : Fld Z h103 b103 "java/lang/String" "coder" "B" (.int 0) := D103 (Or.inr (wi hw 31 rfl)) (ty := .byte) (by decide)
  have F_value_b103 : Fld Z h103 b103 "java/lang/String" "value" "[B" .null := D103 (Or.inr (wi hw 33 rfl)) (ty := (.array .byte)) (by decide)
  have fV_b101_3_104 := (Vc102.ext E103)
  have shp105 : ∀ c ∈ ([d0, d1, d2, d3, d4, d5, (46 : Int32), d7] : List Int32), ¬ c < 0 ∧ ¬ (255 : Int32) < c := (own_memS (own_dd hd0).1 (own_memS (own_dd hd1).1 (own_memS (own_dd hd2).1 (own_memS (own_dd hd3).1 (own_memS (own_dd hd4).1 (own_memS (own_dd hd5).1 (own_memS (by decide) (own_memS (own_dd hd7).1 own_mem0))))))))
  have sA105 : Arv Z h103 b101 kb101 .char (8 : Int32) (([d0, d1, d2, d3, d4, d5, (46 : Int32), d7] : List Int32).map Value.int) (.int (0 : Int32)) := fV_b101_3_104
  obtain ⟨_, _, ⟨T106, L106, k106, n106⟩, -, X106, ⟨Lc106, hQ106, l106, y106, z106⟩, st106⟩ := X103.specialBack hx (y := y2) rfl hown (mvT hZ (wi hw 8 rfl)) (mvT hZ (wi hw 9 rfl)) (mvT hZ (wi hw 10 rfl)) (by decide) (StrChars.Road.backV (W := 1) hZ (fun d hd => hw d (own_w_backV d hd)) (kI := 4) (wi hw 6 rfl) (cs := ([d0, d1, d2, d3, d4, d5, (46 : Int32), d7] : List Int32)) (bs := ([d0, d1, d2, d3, d4, d5, (46 : Int32), d7] : List Int32).map (fun c => c.toInt8.toInt32)) (n := 8) g_b103 (O103.1 ▸ O103.2.1) A103 F_value_b103 F_coder_b103 sA105 (S_CS.ext O103.2) hG1 rfl rfl (by decide) (by decide) shp105 rfl (by decide) (by decide)) (g := (mkF m 166 #[.val (.int p1), .val (.int p2), .val (.int 6), .val (.int x3), .val (.int x4), .val (.ref b101), .unset] [(.ref b101), (.ref b103), (.ref b103)])) rfl (by rw [hml]; rfl) (Steps.refl _) (a := b103) (argsL := [(.ref b101)]) (rest := [(.ref b103)]) (lenOf pd_15 rfl) rfl (by show 2 * 0 + _ ≤ _; exact Nat.le_of_eq rfl) (hb hby at_166) (fun _ _ => ⟨rfl, e103, (by decide : 2 + 1 ≤ _), (by decide : 12 + 8 ≤ _)⟩)
  dsimp only [Pt.U, Pt.locs, Pt.cells, Pt.slots] at X106 l106 y106 z106 st106 hQ106
  subst l106 y106 z106
  obtain ⟨rfl, N106q, K106, sE105, sC105, t105, kb105, sg105, ssz105, sne105, sV105, sK105⟩ := hQ106
  obtain ⟨h106, e106⟩ : ∃ z, T106.heap = z := ⟨_, rfl⟩
  rw [e106] at K106 sE105 sC105 sV105 sK105
  have g_t105 : n0 ≤ t105 := Nat.le_trans (O103.1 ▸ O103.2.1) ssz105
  have sz_t105 : h0.size ≤ t105 := Nat.le_trans KK103.1 ssz105
  have O106 := O103.keep K106 (allS g_b103 all0)
  have KK106 : Keep h0 h106 [] := KK103.trans K106 (allS (Or.inr sz_b103) all0)
  have N106 := Fr.app Ns102 N106q
  have scd105 : StrChars.Road.CodA ([d0, d1, d2, d3, d4, d5, (46 : Int32), d7] : List Int32) 0 (8 : Int32) ((([d0, d1, d2, d3, d4, d5, (46 : Int32), d7] : List Int32).map (fun c => c.toInt8.toInt32)).map Value.int) := StrChars.Road.codOf (n := 8) rfl (fun c hc => (shp105 c hc).2)
  obtain ⟨_, _, ⟨T108, L108, k108, n108⟩, -, X108, ⟨Lc108, hQ108, l108, y108, z108⟩, st108⟩ := Jvm.LawKit.callS X106 hx (y := y8) hown (mvT hZ (wi hw 34 rfl)) (mvT hZ (wi hw 35 rfl)) (mvT hZ (wi hw 36 rfl)) (mvT hZ (wi hw 37 rfl)) (by decide) (backOf (W := 0) (rmM l Z a0 hw [] G1 G3 b103 (6 : Int32) 6 ([d0, d1, d2, d3, d4, d5, (46 : Int32), d7] : List Int32) ([d0, d1, d2, d3, d4, d5] : List Int32) h106 n0 O106 S_CS hG1 S_SF rG3 ⟨_, _, _, _, sE105, sV105, sC105, sK105, scd105, shp105, (Nat.le_of_ble_eq_true rfl)⟩ rfl ⟨(StrChars.lo8 d0), (StrChars.lo8 d1), (StrChars.lo8 d2), (StrChars.lo8 d3), (StrChars.lo8 d4), (StrChars.lo8 d5), (StrChars.lo8 (46 : Int32)), (StrChars.lo8 d7), Or.inr (Or.inr (Or.inr (Or.inr (Or.inr (⟨rfl, rfl, (own_dd hd0).2, (own_dd hd1).2, (own_dd hd2).2, (own_dd hd3).2, (own_dd hd4).2, (own_dd hd5).2⟩)))))⟩ ⟨by decide, by decide, by decide, by decide, by decide, by decide, by decide, rfl⟩ rfl (own_memS (own_dd hd0).1 (own_memS (own_dd hd1).1 (own_memS (own_dd hd2).1 (own_memS (own_dd hd3).1 (own_memS (own_dd hd4).1 (own_memS (own_dd hd5).1 own_mem0)))))) (Nat.le_of_ble_eq_true rfl)) hZ (wi hw 37 rfl) (wi hw 36 rfl) (by decide) (by decide)) (g := (mkF m 169 #[.val (.int p1), .val (.int p2), .val (.int 6), .val (.int x3), .val (.int x4), .val (.ref b101), .unset] [(.ref b103)])) rfl (by rw [hml]; rfl) (argsL := [(.ref b103)]) (rest := []) (lenOf pd_16 rfl) rfl (by show 2 * 0 + _ ≤ _; exact Nat.le_of_eq rfl) (hb hby at_169) (fun _ _ => ⟨rfl, e106, (by decide : 3 + 2 ≤ _), (by decide : 20 + 12 ≤ _)⟩)
  dsimp only [Pt.U, Pt.locs, Pt.cells, Pt.slots] at X108 l108 y108 z108 st108 hQ108
  subst l108 y108 z108
  obtain ⟨xr, rfl, N108q, K108, szx108, T108q⟩ := hQ108
  obtain ⟨h108, e108⟩ : ∃ z, T108.heap = z := ⟨_, rfl⟩
  rw [e108] at K108 T108q
  obtain ⟨tr107, kbr107, Nr107, vsr107, sEr107, sVr107, sCr107, sKr107, scdr107, shpr107, shlr107⟩ := id T108q
  have g_xr : n0 ≤ xr := Nat.le_trans (O106.1 ▸ O106.2.1) szx108
  have sz_xr : h0.size ≤ xr := Nat.le_trans KK106.1 szx108
  have O108 := O106.keep K108 all0
  have KK108 : Keep h0 h108 [] := KK106.trans K108 all0
  have N108 := Fr.app N106 N108q
  obtain ⟨cq109, kq109, q109a, q109b, q109c⟩ := isOf hZ e108 sEr107
  obtain ⟨_, _, ⟨T109, L109, k109, n109⟩, -, X109, ⟨Lc109, hQ109, l109, y109, z109⟩, st109⟩ := X108.virtualBack hx (y := y12) (z := y12) hown (mvT hZ (wi hw 115 rfl)) (mvT hZ (wi hw 54 rfl)) (notFace_of_selects (args := #[]) (mvT hZ (wi hw 56 rfl))) (mvT hZ (wi hw 56 rfl)) (mvT hZ (wi hw 55 rfl)) (by decide) (StrChars.Road.lenW (W := 0) hZ (fun d hd => hw d (own_w_lenW d hd)) (kI := 4) (wi hw 6 rfl) sEr107 sVr107 sCr107 sKr107 scdr107 (own_up _ shpr107) (S_CS.ext O108.2) hG1 shlr107 (by decide) (by decide)) q109a q109c (g := (mkF m 176 #[.val (.int p1), .val (.int p2), .val (.int 6), .val (.int x3), .val (.int x4), .val (.ref b101), .val (.ref xr)] [(.ref xr)])) rfl (by rw [hml]; rfl) (Steps.refl _) (argsL := []) (rest := []) (lenOf pd_5 rfl) rfl (by show 2 * 0 + _ ≤ _; exact Nat.le_of_eq rfl) (hb hby at_176) (fun _ _ => ⟨rfl, e108, (by decide : 5 + 0 ≤ _), (by decide : 32 + 0 ≤ _)⟩)
  dsimp only [Pt.U, Pt.locs, Pt.cells, Pt.slots] at X109 l109 y109 z109 st109 hQ109
  subst l109 y109 z109
  obtain ⟨rfl, rfl, hh109⟩ := hQ109
  have N109q : Fr n0 ([] : List Loc) := Fr.nil n0
  have e109 : T109.heap = h108 := hh109
  have N109 := Fr.app N108 N109q
  obtain ⟨_, _, ⟨T110, L110, k110, n110⟩, -, X110, ⟨Lc110, hQ110, l110, y110, z110⟩, st110⟩ := Jvm.LawKit.callS X109 hx (y := y27) hown (mvT hZ (wi hw 116 rfl)) (mvT hZ (wi hw 117 rfl)) (mvT hZ (wi hw 3 rfl)) (mvT hZ (wi hw 118 rfl)) (by decide) (backOf (W := 0) (rmA_lt l Z a0 hw [] G1 G3 xr (0 : Int32) (6 : Int32) p1 0 ([d0, d1, d2, d3, d4, d5] : List Int32) h108 n0 O108 S_CS hG1 S_SF rG3 ⟨_, _, _, _, sEr107, sVr107, sCr107, sKr107, scdr107, shpr107, shlr107⟩ (by decide) (by decide) (Nat.le_of_ble_eq_true rfl) hd0) hZ (wi hw 118 rfl) (wi hw 3 rfl) (by decide) (by decide)) (g := (mkF m 188 #[.val (.int p1), .val (.int p2), .val (.int 6), .val (.int x3), .val (.int x4), .val (.ref b101), .val (.ref xr)] [(.int p1), (.int 6), (.int 0), (.ref xr)])) rfl (by rw [hml]; rfl) (argsL := [(.ref xr), (.int 0), (.int 6), (.int p1)]) (rest := []) (lenOf pd_17 rfl) rfl (by show 2 * 0 + _ ≤ _; exact Nat.le_of_eq rfl) (hb hby at_188) (fun _ _ => ⟨rfl, e109, (by decide : 5 + 0 ≤ _), (by decide : 32 + 0 ≤ _)⟩)
  dsimp only [Pt.U, Pt.locs, Pt.cells, Pt.slots] at X110 l110 y110 z110 st110 hQ110
  subst l110 y110 z110
  obtain ⟨rfl, N110q, hh110⟩ := hQ110
  have e110 : T110.heap = h108 := hh110
  have N110 := Fr.app N109 N110q
  obtain ⟨_, _, ⟨T111, L111, k111, n111⟩, -, X111, ⟨Lc111, hQ111, l111, y111, z111⟩, st111⟩ := Jvm.LawKit.callS X110 hx (y := y27) hown (mvT hZ (wi hw 116 rfl)) (mvT hZ (wi hw 117 rfl)) (mvT hZ (wi hw 3 rfl)) (mvT hZ (wi hw 118 rfl)) (by decide) (backOf (W := 0) (rmA_lt l Z a0 hw [] G1 G3 xr (1 : Int32) (6 : Int32) p1 1 ([d0, d1, d2, d3, d4, d5] : List Int32) h108 n0 O108 S_CS hG1 S_SF rG3 ⟨_, _, _, _, sEr107, sVr107, sCr107, sKr107, scdr107, shpr107, shlr107⟩ (by decide) (by decide) (Nat.le_of_ble_eq_true rfl) hd1) hZ (wi hw 118 rfl) (wi hw 3 rfl) (by decide) (by decide)) (g := (mkF m 199 #[.val (.int p1), .val (.int p2), .val (.int 6), .val (.int x3), .val (.int x4), .val (.ref b101), .val (.ref xr)] [(.int p1), (.int 6), (.int 1), (.ref xr)])) rfl (by rw [hml]; rfl) (argsL := [(.ref xr), (.int 1), (.int 6), (.int p1)]) (rest := []) (lenOf pd_17 rfl) rfl (by show 2 * 0 + _ ≤ _; exact Nat.le_of_eq rfl) (hb hby at_199) (fun _ _ => ⟨rfl, e110, (by decide : 5 + 0 ≤ _), (by decide : 32 + 0 ≤ _)⟩)
  dsimp only [Pt.U, Pt.locs, Pt.cells, Pt.slots] at X111 l111 y111 z111 st111 hQ111
  subst l111 y111 z111
  obtain ⟨rfl, N111q, hh111⟩ := hQ111
  have e111 : T111.heap = h108 := hh111
  have N111 := Fr.app N110 N111q
  obtain ⟨_, _, ⟨T112, L112, k112, n112⟩, -, X112, ⟨Lc112, hQ112, l112, y112, z112⟩, st112⟩ := Jvm.LawKit.callS X111 hx (y := y27) hown (mvT hZ (wi hw 116 rfl)) (mvT hZ (wi hw 117 rfl)) (mvT hZ (wi hw 3 rfl)) (mvT hZ (wi hw 118 rfl)) (by decide) (backOf (W := 0) (rmA_lt l Z a0 hw [] G1 G3 xr (2 : Int32) (6 : Int32) p1 2 ([d0, d1, d2, d3, d4, d5] : List Int32) h108 n0 O108 S_CS hG1 S_SF rG3 ⟨_, _, _, _, sEr107, sVr107, sCr107, sKr107, scdr107, shpr107, shlr107⟩ (by decide) (by decide) (Nat.le_of_ble_eq_true rfl) hd2) hZ (wi hw 118 rfl) (wi hw 3 rfl) (by decide) (by decide)) (g := (mkF m 210 #[.val (.int p1), .val (.int p2), .val (.int 6), .val (.int x3), .val (.int x4), .val (.ref b101), .val (.ref xr)] [(.int p1), (.int 6), (.int 2), (.ref xr)])) rfl (by rw [hml]; rfl) (argsL := [(.ref xr), (.int 2), (.int 6), (.int p1)]) (rest := []) (lenOf pd_17 rfl) rfl (by show 2 * 0 + _ ≤ _; exact Nat.le_of_eq rfl) (hb hby at_210) (fun _ _ => ⟨rfl, e111, (by decide : 5 + 0 ≤ _), (by decide : 32 + 0 ≤ _)⟩)
  dsimp only [Pt.U, Pt.locs, Pt.cells, Pt.slots] at X112 l112 y112 z112 st112 hQ112
  subst l112 y112 z112
  obtain ⟨rfl, N112q, hh112⟩ := hQ112
  have e112 : T112.heap = h108 := hh112
  have N112 := Fr.app N111 N112q
  obtain ⟨_, _, ⟨T113, L113, k113, n113⟩, -, X113, ⟨Lc113, hQ113, l113, y113, z113⟩, st113⟩ := Jvm.LawKit.callS X112 hx (y := y27) hown (mvT hZ (wi hw 116 rfl)) (mvT hZ (wi hw 117 rfl)) (mvT hZ (wi hw 3 rfl)) (mvT hZ (wi hw 118 rfl)) (by decide) (backOf (W := 0) (rmA_lt l Z a0 hw [] G1 G3 xr (3 : Int32) (6 : Int32) p1 3 ([d0, d1, d2, d3, d4, d5] : List Int32) h108 n0 O108 S_CS hG1 S_SF rG3 ⟨_, _, _, _, sEr107, sVr107, sCr107, sKr107, scdr107, shpr107, shlr107⟩ (by decide) (by decide) (Nat.le_of_ble_eq_true rfl) hd3) hZ (wi hw 118 rfl) (wi hw 3 rfl) (by decide) (by decide)) (g := (mkF m 221 #[.val (.int p1), .val (.int p2), .val (.int 6), .val (.int x3), .val (.int x4), .val (.ref b101), .val (.ref xr)] [(.int p1), (.int 6), (.int 3), (.ref xr)])) rfl (by rw [hml]; rfl) (argsL := [(.ref xr), (.int 3), (.int 6), (.int p1)]) (rest := []) (lenOf pd_17 rfl) rfl (by show 2 * 0 + _ ≤ _; exact Nat.le_of_eq rfl) (hb hby at_221) (fun _ _ => ⟨rfl, e112, (by decide : 5 + 0 ≤ _), (by decide : 32 + 0 ≤ _)⟩)
  dsimp only [Pt.U, Pt.locs, Pt.cells, Pt.slots] at X113 l113 y113 z113 st113 hQ113
  subst l113 y113 z113
  obtain ⟨rfl, N113q, hh113⟩ := hQ113
  have e113 : T113.heap = h108 := hh113
  have N113 := Fr.app N112 N113q
  obtain ⟨_, _, ⟨T114, L114, k114, n114⟩, -, X114, ⟨Lc114, hQ114, l114, y114, z114⟩, st114⟩ := Jvm.LawKit.callS X113 hx (y := y27) hown (mvT hZ (wi hw 116 rfl)) (mvT hZ (wi hw 117 rfl)) (mvT hZ (wi hw 3 rfl)) (mvT hZ (wi hw 118 rfl)) (by decide) (backOf (W := 0) (rmA_lt l Z a0 hw [] G1 G3 xr (4 : Int32) (6 : Int32) p1 4 ([d0, d1, d2, d3, d4, d5] : List Int32) h108 n0 O108 S_CS hG1 S_SF rG3 ⟨_, _, _, _, sEr107, sVr107, sCr107, sKr107, scdr107, shpr107, shlr107⟩ (by decide) (by decide) (Nat.le_of_ble_eq_true rfl) hd4) hZ (wi hw 118 rfl) (wi hw 3 rfl) (by decide) (by decide)) (g := (mkF m 232 #[.val (.int p1), .val (.int p2), .val (.int 6), .val (.int x3), .val (.int x4), .val (.ref b101), .val (.ref xr)] [(.int p1), (.int 6), (.int 4), (.ref xr)])) rfl (by rw [hml]; rfl) (argsL := [(.ref xr), (.int 4), (.int 6), (.int p1)]) (rest := []) (lenOf pd_17 rfl) rfl (by show 2 * 0 + _ ≤ _; exact Nat.le_of_eq rfl) (hb hby at_232) (fun _ _ => ⟨rfl, e113, (by decide : 5 + 0 ≤ _), (by decide : 32 + 0 ≤ _)⟩)
  dsimp only [Pt.U, Pt.locs, Pt.cells, Pt.slots] at X114 l114 y114 z114 st114 hQ114
  subst l114 y114 z114
  obtain ⟨rfl, N114q, hh114⟩ := hQ114
  have e114 : T114.heap = h108 := hh114
  have N114 := Fr.app N113 N114q
  obtain ⟨_, _, ⟨T115, L115, k115, n115⟩, -, X115, ⟨Lc115, hQ115, l115, y115, z115⟩, st115⟩ := Jvm.LawKit.callS X114 hx (y := y27) hown (mvT hZ (wi hw 116 rfl)) (mvT hZ (wi hw 117 rfl)) (mvT hZ (wi hw 3 rfl)) (mvT hZ (wi hw 118 rfl)) (by decide) (backOf (W := 0) (rmA_lt l Z a0 hw [] G1 G3 xr (5 : Int32) (6 : Int32) p1 5 ([d0, d1, d2, d3, d4, d5] : List Int32) h108 n0 O108 S_CS hG1 S_SF rG3 ⟨_, _, _, _, sEr107, sVr107, sCr107, sKr107, scdr107, shpr107, shlr107⟩ (by decide) (by decide) (Nat.le_of_ble_eq_true rfl) hd5) hZ (wi hw 118 rfl) (wi hw 3 rfl) (by decide) (by decide)) (g := (mkF m 243 #[.val (.int p1), .val (.int p2), .val (.int 6), .val (.int x3), .val (.int x4), .val (.ref b101), .val (.ref xr)] [(.int p1), (.int 6), (.int 5), (.ref xr)])) rfl (by rw [hml]; rfl) (argsL := [(.ref xr), (.int 5), (.int 6), (.int p1)]) (rest := []) (lenOf pd_17 rfl) rfl (by show 2 * 0 + _ ≤ _; exact Nat.le_of_eq rfl) (hb hby at_243) (fun _ _ => ⟨rfl, e114, (by decide : 5 + 0 ≤ _), (by decide : 32 + 0 ≤ _)⟩)
  dsimp only [Pt.U, Pt.locs, Pt.cells, Pt.slots] at X115 l115 y115 z115 st115 hQ115
  subst l115 y115 z115
  obtain ⟨rfl, N115q, hh115⟩ := hQ115
  have e115 : T115.heap = h108 := hh115
  have N115 := Fr.app N114 N115q
  obtain ⟨fs, hr, hrun, hended, hW, hsame⟩ := X115.leave (v := some (.int 1)) (fun h => by rw [Bd.returns] at h; cases h)
  refine ⟨_, _, pre0 _ ?_, hrun, hended, _, _, rfl, ?_, ⟨_, rfl⟩, hW, hsame.mono (by decide) (by decide)⟩
  · show Steps p.tables e below (s₁.setTop (mkF m 0 #[.val (.int p1), .val (.int p2), .unset, .unset, .unset, .unset, .unset] [])) _
    refine XS.iloadN X0.here hx rfl (hb hby at_0) rfl ?_
    refine XS.bipush X0.here hx rfl (hb hby at_1) ?_
    refine XS.iand X0.here hx rfl (hb hby at_3) rfl ?_
    show Steps p.tables e below (s₁.setTop (mkF m 4 #[.val (.int p1), .val (.int p2), .unset, .unset, .unset, .unset, .unset] [(.int (p2 &&& (7 : Int32)))])) _
    refine XS.bipush X0.here hx rfl (hb hby at_4) ?_
    refine XS.irem X0.here hx rfl (hb hby at_6) rfl (by decide) ?_
    refine XS.iconst X0.here hx rfl (hb hby at_7) ?_
    show Steps p.tables e below (s₁.setTop (mkF m 8 #[.val (.int p1), .val (.int p2), .unset, .unset, .unset, .unset, .unset] [(.int 1), (.int (irm (p2 &&& (7 : Int32)) (6 : Int32)))])) _
    refine XS.iadd X0.here hx rfl (hb hby at_8) rfl ?_
    show Steps p.tables e below (s₁.setTop (mkF m 9 #[.val (.int p1), .val (.int p2), .unset, .unset, .unset, .unset, .unset] [(.int ((irm (p2 &&& (7 : Int32)) (6 : Int32)) + (1 : Int32)))])) _
    rw [hm]
    show Steps p.tables e below (s₁.setTop (mkF m 9 #[.val (.int p1), .val (.int p2), .unset, .unset, .unset, .unset, .unset] [(.int 6)])) _
    refine XS.istoreN X0.here hx rfl (hb hby at_9) rfl (l' := #[.val (.int p1), .val (.int p2), .val (.int 6), .unset, .unset, .unset, .unset]) rfl ?_
    show Steps p.tables e below (s₁.setTop (mkF m 10 #[.val (.int p1), .val (.int p2), .val (.int 6), .unset, .unset, .unset, .unset] [])) _
    refine seg10 X0 hx hby p1 p2 (6 : Int32) x3 h3 ?_
    show Steps p.tables e below (s₁.setTop (mkF m 22 #[.val (.int p1), .val (.int p2), .val (.int 6), .unset, .unset, .unset, .unset] [(.int x3)])) _
    refine XS.istoreN X0.here hx rfl (hb hby at_22) rfl (l' := #[.val (.int p1), .val (.int p2), .val (.int 6), .val (.int x3), .unset, .unset, .unset]) rfl ?_
    show Steps p.tables e below (s₁.setTop (mkF m 23 #[.val (.int p1), .val (.int p2), .val (.int 6), .val (.int x3), .unset, .unset, .unset] [])) _
    refine seg23 X0 hx hby p1 p2 (6 : Int32) x3 x4 h4 ?_
    show Steps p.tables e below (s₁.setTop (mkF m 35 #[.val (.int p1), .val (.int p2), .val (.int 6), .val (.int x3), .unset, .unset, .unset] [(.int x4)])) _
    refine XS.istore X0.here hx rfl (hb hby at_35) rfl (l' := #[.val (.int p1), .val (.int p2), .val (.int 6), .val (.int x3), .val (.int x4), .unset, .unset]) rfl ?_
    show Steps p.tables e below (s₁.setTop (mkF m 37 #[.val (.int p1), .val (.int p2), .val (.int 6), .val (.int x3), .val (.int x4), .unset, .unset] [])) _
    refine st101 _ ?_
    show Steps p.tables e below (T101.setTop (mkF m 119 #[.val (.int p1), .val (.int p2), .val (.int 6), .val (.int x3), .val (.int x4), .val (.ref b101), .unset] [])) _
    refine st102 _ ?_
    show Steps p.tables e below (T102.setTop (mkF m 160 #[.val (.int p1), .val (.int p2), .val (.int 6), .val (.int x3), .val (.int x4), .val (.ref b101), .unset] [])) _
    refine st103 _ ?_
    show Steps p.tables e below (T103.setTop (mkF m 163 #[.val (.int p1), .val (.int p2), .val (.int 6), .val (.int x3), .val (.int x4), .val (.ref b101), .unset] [(.ref b103)])) _
    refine XS.dup X103.here hx rfl (hb hby at_163) rfl rfl ?_
    refine XS.aload X103.here hx rfl (hb hby at_164) rfl rfl ?_
    show Steps p.tables e below (T103.setTop (mkF m 166 #[.val (.int p1), .val (.int p2), .val (.int 6), .val (.int x3), .val (.int x4), .val (.ref b101), .unset] [(.ref b101), (.ref b103), (.ref b103)])) _
    refine st106.trans ?_
    show Steps p.tables e below (T106.setTop (mkF m 169 #[.val (.int p1), .val (.int p2), .val (.int 6), .val (.int x3), .val (.int x4), .val (.ref b101), .unset] [(.ref b103)])) _
    refine st108 _ ?_
    show Steps p.tables e below (T108.setTop (mkF m 172 #[.val (.int p1), .val (.int p2), .val (.int 6), .val (.int x3), .val (.int x4), .val (.ref b101), .unset] [(.ref xr)])) _
    refine XS.astore X108.here hx rfl (hb hby at_172) rfl rfl (l' := #[.val (.int p1), .val (.int p2), .val (.int 6), .val (.int x3), .val (.int x4), .val (.ref b101), .val (.ref xr)]) rfl ?_
    refine XS.aload X108.here hx rfl (hb hby at_174) rfl rfl ?_
    show Steps p.tables e below (T108.setTop (mkF m 176 #[.val (.int p1), .val (.int p2), .val (.int 6), .val (.int x3), .val (.int x4), .val (.ref b101), .val (.ref xr)] [(.ref xr)])) _
    refine st109.trans ?_
    show Steps p.tables e below (T109.setTop (mkF m 179 #[.val (.int p1), .val (.int p2), .val (.int 6), .val (.int x3), .val (.int x4), .val (.ref b101), .val (.ref xr)] [(.int 6)])) _
    refine XS.iloadN X109.here hx rfl (hb hby at_179) rfl ?_
    refine XS.icmpNo X109.here hx rfl (hb hby at_180) rfl (teq (by decide : (6 : Int32) = (6 : Int32))).2 ?_
    refine XS.aload X109.here hx rfl (hb hby at_183) rfl rfl ?_
    show Steps p.tables e below (T109.setTop (mkF m 185 #[.val (.int p1), .val (.int p2), .val (.int 6), .val (.int x3), .val (.int x4), .val (.ref b101), .val (.ref xr)] [(.ref xr)])) _
    refine XS.iconst X109.here hx rfl (hb hby at_185) ?_
    refine XS.iloadN X109.here hx rfl (hb hby at_186) rfl ?_
    refine XS.iloadN X109.here hx rfl (hb hby at_187) rfl ?_
    show Steps p.tables e below (T109.setTop (mkF m 188 #[.val (.int p1), .val (.int p2), .val (.int 6), .val (.int x3), .val (.int x4), .val (.ref b101), .val (.ref xr)] [(.int p1), (.int 6), (.int 0), (.ref xr)])) _
    refine st110 _ ?_
    show Steps p.tables e below (T110.setTop (mkF m 191 #[.val (.int p1), .val (.int p2), .val (.int 6), .val (.int x3), .val (.int x4), .val (.ref b101), .val (.ref xr)] [(.int 1)])) _
    refine XS.ifNo X110.here hx rfl (hb hby at_191) rfl ((if0 _ _).trans (feq (by decide : ¬ ((1 : Int32) = (0 : Int32)))).1) ?_
    refine XS.aload X110.here hx rfl (hb hby at_194) rfl rfl ?_
    refine XS.iconst X110.here hx rfl (hb hby at_196) ?_
    show Steps p.tables e below (T110.setTop (mkF m 197 #[.val (.int p1), .val (.int p2), .val (.int 6), .val (.int x3), .val (.int x4), .val (.ref b101), .val (.ref xr)] [(.int 1), (.ref xr)])) _
    refine XS.iloadN X110.here hx rfl (hb hby at_197) rfl ?_
    refine XS.iloadN X110.here hx rfl (hb hby at_198) rfl ?_
    show Steps p.tables e below (T110.setTop (mkF m 199 #[.val (.int p1), .val (.int p2), .val (.int 6), .val (.int x3), .val (.int x4), .val (.ref b101), .val (.ref xr)] [(.int p1), (.int 6), (.int 1), (.ref xr)])) _
    refine st111 _ ?_
    show Steps p.tables e below (T111.setTop (mkF m 202 #[.val (.int p1), .val (.int p2), .val (.int 6), .val (.int x3), .val (.int x4), .val (.ref b101), .val (.ref xr)] [(.int 1)])) _
    refine XS.ifNo X111.here hx rfl (hb hby at_202) rfl ((if0 _ _).trans (feq (by decide : ¬ ((1 : Int32) = (0 : Int32)))).1) ?_
    refine XS.aload X111.here hx rfl (hb hby at_205) rfl rfl ?_
    refine XS.iconst X111.here hx rfl (hb hby at_207) ?_
    show Steps p.tables e below (T111.setTop (mkF m 208 #[.val (.int p1), .val (.int p2), .val (.int 6), .val (.int x3), .val (.int x4), .val (.ref b101), .val (.ref xr)] [(.int 2), (.ref xr)])) _
    refine XS.iloadN X111.here hx rfl (hb hby at_208) rfl ?_
    refine XS.iloadN X111.here hx rfl (hb hby at_209) rfl ?_
    show Steps p.tables e below (T111.setTop (mkF m 210 #[.val (.int p1), .val (.int p2), .val (.int 6), .val (.int x3), .val (.int x4), .val (.ref b101), .val (.ref xr)] [(.int p1), (.int 6), (.int 2), (.ref xr)])) _
    refine st112 _ ?_
    show Steps p.tables e below (T112.setTop (mkF m 213 #[.val (.int p1), .val (.int p2), .val (.int 6), .val (.int x3), .val (.int x4), .val (.ref b101), .val (.ref xr)] [(.int 1)])) _
    refine XS.ifNo X112.here hx rfl (hb hby at_213) rfl ((if0 _ _).trans (feq (by decide : ¬ ((1 : Int32) = (0 : Int32)))).1) ?_
    refine XS.aload X112.here hx rfl (hb hby at_216) rfl rfl ?_
    refine XS.iconst X112.here hx rfl (hb hby at_218) ?_
    show Steps p.tables e below (T112.setTop (mkF m 219 #[.val (.int p1), .val (.int p2), .val (.int 6), .val (.int x3), .val (.int x4), .val (.ref b101), .val (.ref xr)] [(.int 3), (.ref xr)])) _
    refine XS.iloadN X112.here hx rfl (hb hby at_219) rfl ?_
    refine XS.iloadN X112.here hx rfl (hb hby at_220) rfl ?_
    show Steps p.tables e below (T112.setTop (mkF m 221 #[.val (.int p1), .val (.int p2), .val (.int 6), .val (.int x3), .val (.int x4), .val (.ref b101), .val (.ref xr)] [(.int p1), (.int 6), (.int 3), (.ref xr)])) _
    refine st113 _ ?_
    show Steps p.tables e below (T113.setTop (mkF m 224 #[.val (.int p1), .val (.int p2), .val (.int 6), .val (.int x3), .val (.int x4), .val (.ref b101), .val (.ref xr)] [(.int 1)])) _
    refine XS.ifNo X113.here hx rfl (hb hby at_224) rfl ((if0 _ _).trans (feq (by decide : ¬ ((1 : Int32) = (0 : Int32)))).1) ?_
    refine XS.aload X113.here hx rfl (hb hby at_227) rfl rfl ?_
    refine XS.iconst X113.here hx rfl (hb hby at_229) ?_
    show Steps p.tables e below (T113.setTop (mkF m 230 #[.val (.int p1), .val (.int p2), .val (.int 6), .val (.int x3), .val (.int x4), .val (.ref b101), .val (.ref xr)] [(.int 4), (.ref xr)])) _
    refine XS.iloadN X113.here hx rfl (hb hby at_230) rfl ?_
    refine XS.iloadN X113.here hx rfl (hb hby at_231) rfl ?_
    show Steps p.tables e below (T113.setTop (mkF m 232 #[.val (.int p1), .val (.int p2), .val (.int 6), .val (.int x3), .val (.int x4), .val (.ref b101), .val (.ref xr)] [(.int p1), (.int 6), (.int 4), (.ref xr)])) _
    refine st114 _ ?_
    show Steps p.tables e below (T114.setTop (mkF m 235 #[.val (.int p1), .val (.int p2), .val (.int 6), .val (.int x3), .val (.int x4), .val (.ref b101), .val (.ref xr)] [(.int 1)])) _
    refine XS.ifNo X114.here hx rfl (hb hby at_235) rfl ((if0 _ _).trans (feq (by decide : ¬ ((1 : Int32) = (0 : Int32)))).1) ?_
    refine XS.aload X114.here hx rfl (hb hby at_238) rfl rfl ?_
    refine XS.iconst X114.here hx rfl (hb hby at_240) ?_
    show Steps p.tables e below (T114.setTop (mkF m 241 #[.val (.int p1), .val (.int p2), .val (.int 6), .val (.int x3), .val (.int x4), .val (.ref b101), .val (.ref xr)] [(.int 5), (.ref xr)])) _
    refine XS.iloadN X114.here hx rfl (hb hby at_241) rfl ?_
    refine XS.iloadN X114.here hx rfl (hb hby at_242) rfl ?_
    show Steps p.tables e below (T114.setTop (mkF m 243 #[.val (.int p1), .val (.int p2), .val (.int 6), .val (.int x3), .val (.int x4), .val (.ref b101), .val (.ref xr)] [(.int p1), (.int 6), (.int 5), (.ref xr)])) _
    refine st115 _ ?_
    show Steps p.tables e below (T115.setTop (mkF m 246 #[.val (.int p1), .val (.int p2), .val (.int 6), .val (.int x3), .val (.int x4), .val (.ref b101), .val (.ref xr)] [(.int 1)])) _
    refine XS.ifNo X115.here hx rfl (hb hby at_246) rfl ((if0 _ _).trans (feq (by decide : ¬ ((1 : Int32) = (0 : Int32)))).1) ?_
    refine XS.iconst X115.here hx rfl (hb hby at_249) ?_
    refine XS.goto X115.here hx rfl (pc0 := 250) (pc' := 254) rfl (hb hby at_250) (by decide) (by decide) ?_
    show Steps p.tables e below (T115.setTop (mkF m 254 #[.val (.int p1), .val (.int p2), .val (.int 6), .val (.int x3), .val (.int x4), .val (.ref b101), .val (.ref xr)] [(.int 1)])) _
    exact retN X115 hx (t := .boolean) Bd.returns (by simp) (hb hby at_254) hr
  · show Q0 h0 n0 _ T115.heap _
    rw [e115]
    exact ⟨rfl, N115⟩
theorem own_m (x : Int32) : ((irm (x &&& (7 : Int32)) (6 : Int32)) + (1 : Int32)) = 1 ∨ ((irm (x &&& (7 : Int32)) (6 : Int32)) + (1 : Int32)) = 2 ∨ ((irm (x &&& (7 : Int32)) (6 : Int32)) + (1 : Int32)) = 3 ∨ ((irm (x &&& (7 : Int32)) (6 : Int32)) + (1 : Int32)) = 4 ∨ ((irm (x &&& (7 : Int32)) (6 : Int32)) + (1 : Int32)) = 5 ∨ ((irm (x &&& (7 : Int32)) (6 : Int32)) + (1 : Int32)) = 6 := by
  have h : (x &&& 7).toBitVec.toNat < 8 := by
    simp only [Int32.toBitVec_and, BitVec.toNat_and]
    exact Nat.lt_succ_of_le Nat.and_le_right
  have e : (x &&& 7) = Int32.ofNat (x &&& 7).toBitVec.toNat := by
    apply Int32.toBitVec_inj.mp
    show _ = BitVec.ofNat 32 _
    rw [BitVec.ofNat_toNat]; simp
  have t : ∀ k : Fin 8, ((irm (Int32.ofNat k.val) (6 : Int32)) + (1 : Int32)) = 1 ∨ ((irm (Int32.ofNat k.val) (6 : Int32)) + (1 : Int32)) = 2 ∨ ((irm (Int32.ofNat k.val) (6 : Int32)) + (1 : Int32)) = 3 ∨ ((irm (Int32.ofNat k.val) (6 : Int32)) + (1 : Int32)) = 4 ∨ ((irm (Int32.ofNat k.val) (6 : Int32)) + (1 : Int32)) = 5 ∨ ((irm (Int32.ofNat k.val) (6 : Int32)) + (1 : Int32)) = 6 := by decide
  rw [e]
  exact t ⟨_, h⟩
theorem own_f {x d x0 i : Int32} (h : d = dig x0 i) : ¬ (if x = (0 : Int32) then d else (46 : Int32)) < 0 ∧ ¬ (255 : Int32) < (if x = (0 : Int32) then d else (46 : Int32)) := by
  split
  · exact (own_dd h).1
  · decide
set_option maxRecDepth 65536 in
set_option maxHeartbeats 40000000 in
theorem comes_1 {Post : Tables → Env → Array Value → State → Outcome → State → Prop} (hpost : ∀ tb e args s v u, (limb_1_1.after args s (.returned v) u = true ∧ limb_1_2.after args s (.returned v) u = true ∧ True) → FrameEnd s (.returned v) u (Jvm.fieldLocs frame_1_writes args s ++ Jvm.arrayLocs frame_1_arrays args s ++ Jvm.staticLocs frame_1_statics s) 24 128 → Post tb e args s (.returned v) u) :
    ArmFor flags0 classFile x code maxLocals ret World_1 tables_1 room_1 Calls_1 rest_1 Pre_1 Post := by
  intro l hfl _ _ p e ha hc hk s m args below hf hA hF happ hP
  obtain ⟨hcalls, hrest, hpre⟩ := hP
  obtain ⟨-, -, -, hnamed, -, -, -, hat⟩ := (Spec.applies_iff hf).mp happ
  obtain ⟨hg, hn⟩ := and_e (Cond.before_iff.mp (show (Jvm.Cond.and given_1 narrow_1).before args s = true from hpre))
  obtain ⟨hcnt, hi0⟩ := and_e hg
  obtain ⟨ha0, hb0⟩ := and_e hi0
  obtain ⟨w0, w1, rfl⟩ : ∃ w0 w1 : Value, args = #[w0, w1] := by
    have hs : args.size = 2 := by simpa [Cond.value, given_1] using hcnt
    obtain ⟨L⟩ := args
    match L, hs with
    | [w0, w1], _ => exact ⟨w0, w1, rfl⟩
  have hw := fun d (hd : d ∈ tables_1) => atoms_spec (ws := Jvm.Cond.code x code maxLocals ret :: tables_1) hat d (List.mem_cons_of_mem _ hd)
  have hfit : Fit s := fun {y c} hc i hi => by
    obtain ⟨ha, rfl⟩ := Array.getElem?_eq_some_iff.mp hc
    have q := List.all_eq_true.mp ((Array.all_eq_true_iff_forall_mem.mp hF) _ (Array.getElem_mem ha)) i (List.mem_range.mpr hi)
    simpa [Array.getElem?_eq_getElem hi] using q
  obtain ⟨i0, ei0⟩ := is_v ha0
  obtain rfl : w0 = (.int i0) := Option.some.inj ei0
  obtain ⟨i1, ei1⟩ := is_v hb0
  obtain rfl : w1 = (.int i1) := Option.some.inj ei1
  obtain ⟨hsets, hown0⟩ := atoms_of _ (rest_1_c_eq ▸ (show rest_1_c.before _ s = true from hrest))
  obtain ⟨i_CS, ev_CS⟩ := is_v (Cond.before_iff.mp (hsets _ (List.mem_of_getElem? (i := 1) rfl)))
  have S_CS : Sta s s.heap "java/lang/String" "COMPACT_STRINGS" "Z" (.int i_CS) := Sta.start ev_CS (Or.inl (hsets _ (List.mem_of_getElem? (i := 0) rfl)))
  have hCS : ¬ (i_CS = (0 : Int32)) := gotF (Cond.eq_ints ev_CS (Term.int_eval (0))) (not_v (Cond.before_iff.mp (hsets _ (List.mem_of_getElem? (i := 2) rfl))))
  obtain ⟨v_SF, ev_SF, r_SF⟩ := isR_v (Cond.before_iff.mp (hsets _ (List.mem_of_getElem? (i := 8) rfl)))
  have S_SF : Sta s s.heap "jdk/internal/util/Preconditions" "SIOOBE_FORMATTER" "Ljava/util/function/BiFunction;" v_SF := Sta.start ev_SF (Or.inl (hsets _ (List.mem_of_getElem? (i := 7) rfl)))
  obtain ⟨x3, h3⟩ : ∃ z : Int32, z = if (i1 &&& (8 : Int32)) = (0 : Int32) then (0 : Int32) else (1 : Int32) := ⟨_, rfl⟩
  obtain ⟨x4, h4⟩ : ∃ z : Int32, z = if (i1 &&& (16 : Int32)) = (0 : Int32) then (0 : Int32) else (1 : Int32) := ⟨_, rfl⟩
  obtain ⟨d0, hd0⟩ : ∃ z : Int32, z = dig i0 (0 : Int32) := ⟨_, rfl⟩
  obtain ⟨d1, hd1⟩ : ∃ z : Int32, z = dig i0 (1 : Int32) := ⟨_, rfl⟩
  obtain ⟨d2, hd2⟩ : ∃ z : Int32, z = dig i0 (2 : Int32) := ⟨_, rfl⟩
  obtain ⟨d3, hd3⟩ : ∃ z : Int32, z = dig i0 (3 : Int32) := ⟨_, rfl⟩
  obtain ⟨d4, hd4⟩ : ∃ z : Int32, z = dig i0 (4 : Int32) := ⟨_, rfl⟩
  obtain ⟨d5, hd5⟩ : ∃ z : Int32, z = dig i0 (5 : Int32) := ⟨_, rfl⟩
  obtain ⟨d6, hd6⟩ : ∃ z : Int32, z = dig i0 (6 : Int32) := ⟨_, rfl⟩
  obtain ⟨d7, hd7⟩ : ∃ z : Int32, z = dig i0 (7 : Int32) := ⟨_, rfl⟩
  have key : MetFree l x (head1 (Jvm.Cond.code x code maxLocals ret :: tables_1) room_1) (fun a U => a = #[(.int i0), (.int i1)] ∧ s.Warmed39 U.vm ∧ U.heap = s.heap) (fun _ _ _ _ _ => True) (fun _ U o U' => ∃ v L, o = .returned v ∧ Q0 s.heap s.heap.size v U'.heap L ∧ FrameEnd U o U' L room_1.cells room_1.slots) := by
    rcases own_m i1 with hm | hm | hm | hm | hm | hm
    · exact rm0_1 l s _ hw tables_1 i0 i1 i_CS v_SF x3 x4 (if x3 = (0 : Int32) then d3 else (46 : Int32)) (if x4 = (0 : Int32) then d5 else (46 : Int32)) d0 d1 d2 d3 d4 d5 d6 d7 s.heap s.heap.size (Old.start s) S_CS hCS S_SF r_SF hd0 hd1 hd2 hd3 hd4 hd5 hd6 hd7 h3 h4 rfl rfl (own_f hd3) (own_f hd5) hm
    · exact rm0_2 l s _ hw tables_1 i0 i1 i_CS v_SF x3 x4 (if x3 = (0 : Int32) then d4 else (46 : Int32)) (if x4 = (0 : Int32) then d6 else (46 : Int32)) d0 d1 d2 d3 d4 d5 d6 d7 s.heap s.heap.size (Old.start s) S_CS hCS S_SF r_SF hd0 hd1 hd2 hd3 hd4 hd5 hd6 hd7 h3 h4 rfl rfl (own_f hd4) (own_f hd6) hm
    · exact rm0_3 l s _ hw tables_1 i0 i1 i_CS v_SF x3 x4 (if x3 = (0 : Int32) then d5 else (46 : Int32)) 0 d0 d1 d2 d3 d4 d5 d6 d7 s.heap s.heap.size (Old.start s) S_CS hCS S_SF r_SF hd0 hd1 hd2 hd3 hd4 hd5 hd6 hd7 h3 h4 rfl (own_f hd5) hm
    · exact rm0_4 l s _ hw tables_1 i0 i1 i_CS v_SF x3 x4 (if x3 = (0 : Int32) then d6 else (46 : Int32)) 0 d0 d1 d2 d3 d4 d5 d6 d7 s.heap s.heap.size (Old.start s) S_CS hCS S_SF r_SF hd0 hd1 hd2 hd3 hd4 hd5 hd6 hd7 h3 h4 rfl (own_f hd6) hm
    · exact rm0_5 l s _ hw tables_1 i0 i1 i_CS v_SF x3 x4 0 0 d0 d1 d2 d3 d4 d5 d6 d7 s.heap s.heap.size (Old.start s) S_CS hCS S_SF r_SF hd0 hd1 hd2 hd3 hd4 hd5 hd6 hd7 h3 h4 hm
    · exact rm0_6 l s _ hw tables_1 i0 i1 i_CS v_SF x3 x4 0 0 d0 d1 d2 d3 d4 d5 d6 d7 s.heap s.heap.size (Old.start s) S_CS hCS S_SF r_SF hd0 hd1 hd2 hd3 hd4 hd5 hd6 hd7 h3 h4 hm
  obtain ⟨n, o, h1, h2, h3, _, L, rfl, ⟨rfl, N⟩, hq⟩ := key p e ha hc hk s m _ below hf ((Spec.applies_iff_loose hf).mp happ).1 ⟨rfl, State.Warmed39.refl s, rfl⟩ trivial
  refine ⟨n, _, h1, h2, h3, hpost _ _ _ _ _ _ ⟨Cond.after_iff.mpr rfl, Cond.after_iff.mpr (eq_i res_at (Term.int_eval (1)) rfl), trivial⟩ ⟨hq.1, hq.2.1, (hq.2.2.sift fun y hy => Or.inr (N y hy)).mono (by decide) (by decide)⟩⟩
theorem main_1_1 : Claimed_1_1 := comes_1 fun _ _ _ _ _ _ h hF => ⟨h.1, hF⟩
theorem main_1_2 : Claimed_1_2 := comes_1 fun _ _ _ _ _ _ h hF => ⟨h.2.1, hF⟩
end Jvm.Pilot.@@N@@
namespace Jvm.Pilot.@@N@@
open Jvm Jvm.ClassFile Sem Op Lib Jvm.Free Jvm.Stand Jvm.Pilot.@@N@@.Jvm.D
/-! MADE BY PROGRAM (witnessworld.py) out of the Statement's table words and the real class files: 23 classes; the members and pool entries that the words name. The judged class is class 1, her method 3. -/
namespace start1
open Jvm.ClassFile
def u (s : String) : CpInfo := .utf8 (stringToUtf16 s)
/-- a pool by its gaps: so many unusable entries, then the entry; so many at the end -/
def gap : Nat → List CpInfo → List CpInfo
  | 0, r => r
  | n + 1, r => .unusable :: gap n r
def poolList (es : List (Nat × CpInfo)) (last : Nat) : List CpInfo := es.foldr (fun e r => gap e.1 (e.2 :: r)) (gap last [])
def pool (es : List (Nat × CpInfo)) (last : Nat) : Array CpInfo := ⟨poolList es last⟩
def fileOf (pool : Array CpInfo) (this : Nat) (attrs : Array Attribute := #[]) (ms : Array MethodInfo := #[]) (fl : Nat := 33) (sup : Nat := 0) (ifs : Array Nat := #[]) (fds : Array FieldInfo := #[]) : ClassFile where
  minorVersion := 0
  majorVersion := 65
  constantPool := pool
  accessFlags := fl
  thisClass := this
  superClass := sup
  interfaces := ifs
  fields := fds
  methods := ms
  attributes := attrs
def plain (name : String) (sup : Option ClassId) : Class where
  name := name
  kind := .ordinary
  loader := none
  accessFlags := 33
  super := sup
  interfaces := #[]
  cf := none
  fields := #[]
  methods := #[]
  instanceTypes := #[]
  staticTypes := #[]
  resolved := #[]
  callSites := []
  init := .initialized
  statics := none
  mirror := none

def pool0 : Array CpInfo := pool [(5, u "<init>"), (0, u "()V"), (1, .class_ 10), (1, u "java/lang/Object")] 113

def k0c0 : Code := { maxStack := 0, maxLocals := 1, code := object_method_1_code, exceptionTable := #[], attributes := #[] }
def k0m0 : Method := { name := "<init>", desc := "()V", sig := { parameters := [], returnType := none }, accessFlags := 1, code := some k0c0 }
/-- java/lang/Object -/
def k0 : Class := { plain "java/lang/Object" none with
  accessFlags := 33
  interfaces := #[]
  cf := some (fileOf pool0 8 #[] #[{ accessFlags := 1, nameIndex := 5, descriptorIndex := 6, attributes := #[] }] 33 0 #[] #[])
  fields := #[]
  methods := #[k0m0]
  instanceTypes := #[]
  staticTypes := #[]
  resolved := Array.replicate 124 none
  statics := none }

def pool1 : Array CpInfo := pool [(2, .class_ 4), (1, u "java/lang/Object"), (0, u "<init>"), (0, u "()V"), (0, .methodref 8 9), (0, .class_ 10), (0, .nameAndType 11 12), (0, u "java/lang/String"), (0, u "charAt"), (0, u "(I)C"), (0, .methodref 14 15), (0, .class_ 16), (0, .nameAndType 17 18), (0, u "io/roadcrew/resolve/VersionReaderMajorPinLaw"), (0, u "digit"), (0, u "(II)C"), (0, .methodref 8 20), (0, .nameAndType 5 21), (0, u "([C)V"), (0, .methodref 23 24), (0, .class_ 25), (0, .nameAndType 26 27), (0, u "io/roadcrew/resolve/VersionReader"), (0, u "major"), (0, u "(Ljava/lang/String;)Ljava/lang/String;"), (0, .methodref 8 29), (0, .nameAndType 30 31), (0, u "length"), (0, u "()I"), (0, .methodref 14 33), (0, .nameAndType 34 35), (0, u "at"), (0, u "(Ljava/lang/String;III)Z"), (3, u "law"), (0, u "(II)Z")] 4

def k1m0 : Method := { name := "<init>", desc := "()V", sig := { parameters := [], returnType := none }, accessFlags := 1, code := none }
def k1c1 : Code := { maxStack := 4, maxLocals := 2, code := method_2_code, exceptionTable := #[], attributes := #[] }
def k1m1 : Method := { name := "digit", desc := "(II)C", sig := { parameters := [.int, .int], returnType := some .char }, accessFlags := 10, code := some k1c1 }
def k1c2 : Code := { maxStack := 3, maxLocals := 4, code := method_3_code, exceptionTable := #[], attributes := #[] }
def k1m2 : Method := { name := "at", desc := "(Ljava/lang/String;III)Z", sig := { parameters := [(.object "java/lang/String"), .int, .int, .int], returnType := some .boolean }, accessFlags := 10, code := some k1c2 }
def k1c3 : Code := { maxStack := 4, maxLocals := 7, code := code, exceptionTable := #[], attributes := #[] }
def k1m3 : Method := { name := "law", desc := "(II)Z", sig := { parameters := [.int, .int], returnType := some .boolean }, accessFlags := 9, code := some k1c3 }
/-- io/roadcrew/resolve/VersionReaderMajorPinLaw -/
def k1 : Class := { plain "io/roadcrew/resolve/VersionReaderMajorPinLaw" (some 0) with
  accessFlags := 49
  interfaces := #[]
  cf := some (fileOf pool1 14 #[] #[{ accessFlags := 1, nameIndex := 5, descriptorIndex := 6, attributes := #[] }, { accessFlags := 10, nameIndex := 17, descriptorIndex := 18, attributes := #[] }, { accessFlags := 10, nameIndex := 34, descriptorIndex := 35, attributes := #[] }, { accessFlags := 9, nameIndex := 39, descriptorIndex := 40, attributes := #[] }] 49 2 #[] #[])
  fields := #[]
  methods := #[k1m0, k1m1, k1m2, k1m3]
  instanceTypes := #[]
  staticTypes := #[]
  resolved := Array.replicate 45 none
  statics := none }

def pool2 : Array CpInfo := pool [(1, .class_ 2), (0, u "java/io/Serializable"), (0, .class_ 4), (0, u "java/lang/Object")] 2

/-- java/io/Serializable -/
def k2 : Class := { plain "java/io/Serializable" (some 0) with
  accessFlags := 1537
  interfaces := #[]
  cf := some (fileOf pool2 1 #[] #[] 1537 3 #[] #[])
  fields := #[]
  methods := #[]
  instanceTypes := #[]
  staticTypes := #[]
  resolved := Array.replicate 7 none
  statics := none }

def pool3 : Array CpInfo := pool [(1, .class_ 2), (0, u "java/lang/Comparable"), (0, .class_ 4), (0, u "java/lang/Object")] 7

/-- java/lang/Comparable -/
def k3 : Class := { plain "java/lang/Comparable" (some 0) with
  accessFlags := 1537
  interfaces := #[]
  cf := some (fileOf pool3 1 #[] #[] 1537 3 #[] #[])
  fields := #[]
  methods := #[]
  instanceTypes := #[]
  staticTypes := #[]
  resolved := Array.replicate 12 none
  statics := none }

def pool4 : Array CpInfo := pool [(2, .class_ 4), (1, u "java/lang/CharSequence"), (42, .class_ 48), (0, u "java/lang/CharSequence$1CodePointIterator"), (10, .class_ 60), (0, u "java/lang/CharSequence$1CharIterator"), (5, .class_ 67), (0, u "java/lang/Object")] 63

/-- java/lang/CharSequence -/
def k4 : Class := { plain "java/lang/CharSequence" (some 0) with
  accessFlags := 1537
  interfaces := #[]
  cf := some (fileOf pool4 2 #[.nestMembers #[47, 59]] #[] 1537 66 #[] #[])
  fields := #[]
  methods := #[]
  instanceTypes := #[]
  staticTypes := #[]
  resolved := Array.replicate 131 none
  statics := none }

def pool5 : Array CpInfo := pool [(1, .class_ 2), (0, u "java/lang/constant/Constable"), (0, .class_ 4), (0, u "java/lang/Object")] 6

/-- java/lang/constant/Constable -/
def k5 : Class := { plain "java/lang/constant/Constable" (some 0) with
  accessFlags := 1537
  interfaces := #[]
  cf := some (fileOf pool5 1 #[] #[] 1537 3 #[] #[])
  fields := #[]
  methods := #[]
  instanceTypes := #[]
  staticTypes := #[]
  resolved := Array.replicate 11 none
  statics := none }

def pool6 : Array CpInfo := pool [(1, .class_ 2), (0, u "java/lang/constant/ConstantDesc"), (0, .class_ 4), (0, u "java/lang/Object")] 32

/-- java/lang/constant/ConstantDesc -/
def k6 : Class := { plain "java/lang/constant/ConstantDesc" (some 0) with
  accessFlags := 1537
  interfaces := #[]
  cf := some (fileOf pool6 1 #[] #[] 1537 3 #[] #[])
  fields := #[]
  methods := #[]
  instanceTypes := #[]
  staticTypes := #[]
  resolved := Array.replicate 37 none
  statics := none }

def pool7 : Array CpInfo := pool [(1, .methodref 2 3), (0, .class_ 4), (0, .nameAndType 5 6), (0, u "java/lang/Object"), (0, u "<init>"), (0, u "()V"), (2, .fieldref 10 11), (0, .class_ 12), (0, .nameAndType 13 14), (0, u "java/lang/String"), (0, u "value"), (0, u "[B"), (0, .fieldref 10 16), (0, .nameAndType 17 18), (0, u "coder"), (0, u "B"), (2, u "hash"), (0, u "I"), (2, u "hashIsZero"), (0, u "Z"), (0, .methodref 10 28), (0, .nameAndType 5 29), (0, u "([CIILjava/lang/Void;)V"), (8, .fieldref 10 39), (0, .nameAndType 40 26), (0, u "COMPACT_STRINGS"), (1, .class_ 44), (1, u "java/lang/StringUTF16"), (0, u "compress"), (1, .methodref 42 48), (0, .nameAndType 49 50), (0, u "coderFromArrayLen"), (0, u "([BI)B"), (56, .class_ 109), (1, u "java/lang/StringLatin1"), (32, u "()Z"), (34, .methodref 42 178), (0, .nameAndType 45 179), (0, u "([CII)[B"), (31, u "([BB)V"), (122, u "()I"), (0, .methodref 10 336), (0, .nameAndType 17 337), (0, u "()B"), (25, u "([BI)C"), (27, u "(II)V"), (35, u "(I)C"), (64, .methodref 10 493), (0, .nameAndType 494 142), (0, u "isLatin1"), (0, .methodref 107 496), (0, .nameAndType 497 363), (0, u "charAt"), (3, u "checkIndex"), (3, .methodref 10 506), (0, .nameAndType 507 334), (0, u "length"), (5, u "checkFromToIndex"), (7, .methodref 10 522), (0, .nameAndType 523 524), (0, u "checkBoundsBeginEnd"), (0, u "(III)V"), (50, .class_ 576), (0, u "java/lang/CharSequence"), (22, u "CASE_INSENSITIVE_ORDER"), (0, u "Ljava/util/Comparator;"), (32, .methodref 10 634), (0, .nameAndType 635 636), (0, u "indexOf"), (0, u "(II)I"), (0, .methodref 107 638), (0, .nameAndType 635 639), (0, u "([BIII)I"), (43, u "substring"), (0, u "(II)Ljava/lang/String;"), (0, .methodref 107 686), (0, .nameAndType 687 688), (0, u "newString"), (0, u "([BII)Ljava/lang/String;"), (76, u "(I)I"), (244, u "([C)V"), (42, .fieldref 1054 1055), (0, .class_ 1056), (0, .nameAndType 1057 1058), (0, u "jdk/internal/util/Preconditions"), (0, u "SIOOBE_FORMATTER"), (0, u "Ljava/util/function/BiFunction;"), (0, .methodref 1054 1060), (0, .nameAndType 501 1061), (0, u "(IILjava/util/function/BiFunction;)I"), (0, .methodref 1054 1063), (0, .nameAndType 513 1064), (0, u "(IIILjava/util/function/BiFunction;)I"), (36, u "serialPersistentFields"), (0, u "[Ljava/io/ObjectStreamField;"), (0, .class_ 1104), (0, u "java/lang/String$CaseInsensitiveComparator"), (1, .class_ 1107), (0, u "java/io/Serializable"), (0, .class_ 1109), (0, u "java/lang/Comparable"), (0, .class_ 1111), (0, u "java/lang/constant/Constable"), (0, .class_ 1113), (0, u "java/lang/constant/ConstantDesc"), (2, u "serialVersionUID"), (0, u "J"), (3, u "REPL"), (0, u "C"), (2, u "LATIN1"), (1, u "UTF16")] 323

def k7m0 : Method := { name := "<init>", desc := "()V", sig := { parameters := [], returnType := none }, accessFlags := 1, code := none }
def k7c1 : Code := { maxStack := 5, maxLocals := 2, code := jdk_42_method_3_code, exceptionTable := #[], attributes := #[] }
def k7m1 : Method := { name := "<init>", desc := "([C)V", sig := { parameters := [(.array .char)], returnType := none }, accessFlags := 1, code := some k7c1 }
def k7c2 : Code := { maxStack := 2, maxLocals := 1, code := jdk_42_method_54_code, exceptionTable := #[], attributes := #[] }
def k7m2 : Method := { name := "length", desc := "()I", sig := { parameters := [], returnType := some .int }, accessFlags := 1, code := some k7c2 }
def k7c3 : Code := { maxStack := 2, maxLocals := 2, code := jdk_42_method_56_code, exceptionTable := #[], attributes := #[] }
def k7m3 : Method := { name := "charAt", desc := "(I)C", sig := { parameters := [.int], returnType := some .char }, accessFlags := 1, code := some k7c3 }
def k7c4 : Code := { maxStack := 3, maxLocals := 2, code := jdk_42_method_79_code, exceptionTable := #[], attributes := #[] }
def k7m4 : Method := { name := "indexOf", desc := "(I)I", sig := { parameters := [.int], returnType := some .int }, accessFlags := 1, code := some k7c4 }
def k7c5 : Code := { maxStack := 4, maxLocals := 3, code := jdk_42_method_80_code, exceptionTable := #[], attributes := #[] }
def k7m5 : Method := { name := "indexOf", desc := "(II)I", sig := { parameters := [.int, .int], returnType := some .int }, accessFlags := 1, code := some k7c5 }
def k7c6 : Code := { maxStack := 3, maxLocals := 5, code := jdk_42_method_92_code, exceptionTable := #[], attributes := #[] }
def k7m6 : Method := { name := "substring", desc := "(II)Ljava/lang/String;", sig := { parameters := [.int, .int], returnType := some (.object "java/lang/String") }, accessFlags := 1, code := some k7c6 }
def k7c7 : Code := { maxStack := 4, maxLocals := 6, code := jdk_42_method_149_code, exceptionTable := #[], attributes := #[] }
def k7m7 : Method := { name := "<init>", desc := "([CIILjava/lang/Void;)V", sig := { parameters := [(.array .char), .int, .int, (.object "java/lang/Void")], returnType := none }, accessFlags := 2, code := some k7c7 }
def k7c8 : Code := { maxStack := 2, maxLocals := 3, code := jdk_42_method_151_code, exceptionTable := #[], attributes := #[] }
def k7m8 : Method := { name := "<init>", desc := "([BB)V", sig := { parameters := [(.array .byte), .byte], returnType := none }, accessFlags := 0, code := some k7c8 }
def k7c9 : Code := { maxStack := 1, maxLocals := 1, code := jdk_42_method_152_code, exceptionTable := #[], attributes := #[] }
def k7m9 : Method := { name := "coder", desc := "()B", sig := { parameters := [], returnType := some .byte }, accessFlags := 0, code := some k7c9 }
def k7c10 : Code := { maxStack := 1, maxLocals := 1, code := jdk_42_method_154_code, exceptionTable := #[], attributes := #[] }
def k7m10 : Method := { name := "isLatin1", desc := "()Z", sig := { parameters := [], returnType := some .boolean }, accessFlags := 0, code := some k7c10 }
def k7c11 : Code := { maxStack := 3, maxLocals := 2, code := jdk_42_method_155_code, exceptionTable := #[], attributes := #[] }
def k7m11 : Method := { name := "checkIndex", desc := "(II)V", sig := { parameters := [.int, .int], returnType := none }, accessFlags := 8, code := some k7c11 }
def k7c12 : Code := { maxStack := 4, maxLocals := 3, code := jdk_42_method_158_code, exceptionTable := #[], attributes := #[] }
def k7m12 : Method := { name := "checkBoundsBeginEnd", desc := "(III)V", sig := { parameters := [.int, .int, .int], returnType := none }, accessFlags := 8, code := some k7c12 }
/-- java/lang/String -/
def k7 : Class := { plain "java/lang/String" (some 0) with
  accessFlags := 49
  interfaces := #[2, 3, 4, 5, 6]
  cf := some (fileOf pool7 10 #[.nestMembers #[1103]] #[{ accessFlags := 1, nameIndex := 5, descriptorIndex := 6, attributes := #[] }, { accessFlags := 1, nameIndex := 5, descriptorIndex := 1010, attributes := #[] }, { accessFlags := 1, nameIndex := 507, descriptorIndex := 334, attributes := #[] }, { accessFlags := 1, nameIndex := 497, descriptorIndex := 427, attributes := #[] }, { accessFlags := 1, nameIndex := 635, descriptorIndex := 765, attributes := #[] }, { accessFlags := 1, nameIndex := 635, descriptorIndex := 636, attributes := #[] }, { accessFlags := 1, nameIndex := 683, descriptorIndex := 684, attributes := #[] }, { accessFlags := 2, nameIndex := 5, descriptorIndex := 29, attributes := #[] }, { accessFlags := 0, nameIndex := 5, descriptorIndex := 211, attributes := #[] }, { accessFlags := 0, nameIndex := 17, descriptorIndex := 337, attributes := #[] }, { accessFlags := 0, nameIndex := 494, descriptorIndex := 142, attributes := #[] }, { accessFlags := 8, nameIndex := 501, descriptorIndex := 391, attributes := #[] }, { accessFlags := 8, nameIndex := 523, descriptorIndex := 524, attributes := #[] }] 49 2 #[1106, 1108, 575, 1110, 1112] #[{ accessFlags := 18, nameIndex := 13, descriptorIndex := 14, attributes := #[] }, { accessFlags := 18, nameIndex := 17, descriptorIndex := 18, attributes := #[] }, { accessFlags := 2, nameIndex := 21, descriptorIndex := 22, attributes := #[] }, { accessFlags := 2, nameIndex := 25, descriptorIndex := 26, attributes := #[] }, { accessFlags := 26, nameIndex := 1116, descriptorIndex := 1117, attributes := #[] }, { accessFlags := 24, nameIndex := 40, descriptorIndex := 26, attributes := #[] }, { accessFlags := 26, nameIndex := 1101, descriptorIndex := 1102, attributes := #[] }, { accessFlags := 26, nameIndex := 1121, descriptorIndex := 1122, attributes := #[] }, { accessFlags := 25, nameIndex := 599, descriptorIndex := 600, attributes := #[] }, { accessFlags := 24, nameIndex := 1125, descriptorIndex := 18, attributes := #[] }, { accessFlags := 24, nameIndex := 1127, descriptorIndex := 18, attributes := #[] }])
  fields := #[{ name := "value", type := (.array .byte), accessFlags := 18, slot := 0, constantValue := 0 }, { name := "coder", type := .byte, accessFlags := 18, slot := 1, constantValue := 0 }, { name := "hash", type := .int, accessFlags := 2, slot := 2, constantValue := 0 }, { name := "hashIsZero", type := .boolean, accessFlags := 2, slot := 3, constantValue := 0 }, { name := "serialVersionUID", type := .long, accessFlags := 26, slot := 0, constantValue := 0 }, { name := "COMPACT_STRINGS", type := .boolean, accessFlags := 24, slot := 1, constantValue := 0 }, { name := "serialPersistentFields", type := (.array (.object "java/io/ObjectStreamField")), accessFlags := 26, slot := 2, constantValue := 0 }, { name := "REPL", type := .char, accessFlags := 26, slot := 3, constantValue := 0 }, { name := "CASE_INSENSITIVE_ORDER", type := (.object "java/util/Comparator"), accessFlags := 25, slot := 4, constantValue := 0 }, { name := "LATIN1", type := .byte, accessFlags := 24, slot := 5, constantValue := 0 }, { name := "UTF16", type := .byte, accessFlags := 24, slot := 6, constantValue := 0 }]
  methods := #[k7m0, k7m1, k7m2, k7m3, k7m4, k7m5, k7m6, k7m7, k7m8, k7m9, k7m10, k7m11, k7m12]
  instanceTypes := #[(.array .byte), .byte, .int, .boolean]
  staticTypes := #[.long, .boolean, (.array (.object "java/io/ObjectStreamField")), .char, (.object "java/util/Comparator"), .byte, .byte]
  resolved := Array.replicate 1451 none
  statics := some 0 }

def pool8 : Array CpInfo := pool [(6, .class_ 8), (1, u "java/lang/Object"), (0, u "<init>"), (0, u "()V"), (1, .class_ 14), (1, u "java/lang/StringUTF16"), (31, u "$assertionsDisabled"), (0, u "Z"), (13, u "HI_BYTE_SHIFT"), (0, u "I"), (2, u "LO_BYTE_SHIFT"), (49, .methodref 12 116), (0, .nameAndType 117 118), (0, u "compress"), (0, u "([CI[BII)I"), (3, u "([CII)[B"), (138, u "coderFromArrayLen"), (0, u "([BI)B"), (106, .class_ 371), (1, u "java/lang/StringUTF16$LinesSpliterator"), (58, u "MAX_LENGTH"), (196, .class_ 628), (0, u "java/lang/StringUTF16$CodePointsSpliterator"), (0, .class_ 630), (0, u "java/lang/StringUTF16$CharsSpliterator")] 4

def k8m0 : Method := { name := "<init>", desc := "()V", sig := { parameters := [], returnType := none }, accessFlags := 0, code := none }
def k8c1 : Code := { maxStack := 2, maxLocals := 2, code := jdk_52_method_15_code, exceptionTable := #[], attributes := #[] }
def k8m1 : Method := { name := "coderFromArrayLen", desc := "([BI)B", sig := { parameters := [(.array .byte), .int], returnType := some .byte }, accessFlags := 8, code := some k8c1 }
def k8c2 : Code := { maxStack := 5, maxLocals := 6, code := jdk_52_method_16_code, exceptionTable := #[], attributes := #[] }
def k8m2 : Method := { name := "compress", desc := "([CII)[B", sig := { parameters := [(.array .char), .int, .int], returnType := some (.array .byte) }, accessFlags := 9, code := some k8c2 }
def k8c3 : Code := { maxStack := 3, maxLocals := 7, code := jdk_52_method_21_code, exceptionTable := #[], attributes := #[] }
def k8m3 : Method := { name := "compress", desc := "([CI[BII)I", sig := { parameters := [(.array .char), .int, (.array .byte), .int, .int], returnType := some .int }, accessFlags := 9, code := some k8c3 }
/-- java/lang/StringUTF16 -/
def k8 : Class := { plain "java/lang/StringUTF16" (some 0) with
  accessFlags := 48
  interfaces := #[]
  cf := some (fileOf pool8 12 #[.nestMembers #[627, 629, 369]] #[{ accessFlags := 0, nameIndex := 9, descriptorIndex := 10, attributes := #[] }, { accessFlags := 8, nameIndex := 261, descriptorIndex := 262, attributes := #[] }, { accessFlags := 9, nameIndex := 117, descriptorIndex := 122, attributes := #[] }, { accessFlags := 9, nameIndex := 117, descriptorIndex := 118, attributes := #[] }] 48 6 #[] #[{ accessFlags := 26, nameIndex := 61, descriptorIndex := 62, attributes := #[] }, { accessFlags := 26, nameIndex := 65, descriptorIndex := 62, attributes := #[] }, { accessFlags := 24, nameIndex := 430, descriptorIndex := 62, attributes := #[] }, { accessFlags := 4120, nameIndex := 46, descriptorIndex := 47, attributes := #[] }])
  fields := #[{ name := "HI_BYTE_SHIFT", type := .int, accessFlags := 26, slot := 0, constantValue := 0 }, { name := "LO_BYTE_SHIFT", type := .int, accessFlags := 26, slot := 1, constantValue := 0 }, { name := "MAX_LENGTH", type := .int, accessFlags := 24, slot := 2, constantValue := 0 }, { name := "$assertionsDisabled", type := .boolean, accessFlags := 4120, slot := 3, constantValue := 0 }]
  methods := #[k8m0, k8m1, k8m2, k8m3]
  instanceTypes := #[]
  staticTypes := #[.int, .int, .int, .boolean]
  resolved := Array.replicate 635 none
  statics := none }

def pool9 : Array CpInfo := pool [(2, .class_ 4), (1, u "java/lang/Object"), (0, u "<init>"), (0, u "()V"), (17, .class_ 26), (1, u "java/lang/String"), (5, u "(Ljava/lang/String;)Ljava/lang/String;"), (49, .class_ 83), (0, u "io/roadcrew/resolve/VersionReader"), (59, .methodref 24 144), (0, .nameAndType 145 146), (0, u "indexOf"), (0, u "(I)I"), (0, .methodref 24 148), (0, .nameAndType 149 150), (0, u "substring"), (0, u "(II)Ljava/lang/String;"), (74, u "VERSION"), (0, u "Ljava/util/regex/Pattern;"), (17, u "TIME_LIMIT_SECONDS"), (0, u "J"), (1, u "OUTPUT_LIMIT"), (0, u "I"), (8, u "major")] 47

def k9m0 : Method := { name := "<init>", desc := "()V", sig := { parameters := [], returnType := none }, accessFlags := 2, code := none }
def k9c1 : Code := { maxStack := 4, maxLocals := 1, code := prog_11_method_3_code, exceptionTable := #[], attributes := #[] }
def k9m1 : Method := { name := "major", desc := "(Ljava/lang/String;)Ljava/lang/String;", sig := { parameters := [(.object "java/lang/String")], returnType := some (.object "java/lang/String") }, accessFlags := 8, code := some k9c1 }
/-- io/roadcrew/resolve/VersionReader -/
def k9 : Class := { plain "io/roadcrew/resolve/VersionReader" (some 0) with
  accessFlags := 48
  interfaces := #[]
  cf := some (fileOf pool9 82 #[] #[{ accessFlags := 2, nameIndex := 5, descriptorIndex := 6, attributes := #[] }, { accessFlags := 8, nameIndex := 257, descriptorIndex := 32, attributes := #[] }] 48 2 #[] #[{ accessFlags := 26, nameIndex := 225, descriptorIndex := 226, attributes := #[] }, { accessFlags := 26, nameIndex := 244, descriptorIndex := 245, attributes := #[] }, { accessFlags := 26, nameIndex := 247, descriptorIndex := 248, attributes := #[] }])
  fields := #[{ name := "VERSION", type := (.object "java/util/regex/Pattern"), accessFlags := 26, slot := 0, constantValue := 0 }, { name := "TIME_LIMIT_SECONDS", type := .long, accessFlags := 26, slot := 1, constantValue := 0 }, { name := "OUTPUT_LIMIT", type := .int, accessFlags := 26, slot := 2, constantValue := 0 }]
  methods := #[k9m0, k9m1]
  instanceTypes := #[]
  staticTypes := #[(.object "java/util/regex/Pattern"), .long, .int]
  resolved := Array.replicate 305 none
  statics := none }

def pool10 : Array CpInfo := pool [(1, .class_ 2), (0, u "java/lang/String"), (1, .class_ 6), (1, u "java/lang/Object"), (0, u "<init>"), (0, u "()V"), (0, .methodref 1 10), (0, .nameAndType 11 12), (0, u "checkIndex"), (0, u "(II)V"), (1, .class_ 16), (1, u "java/lang/StringLatin1"), (21, .methodref 39 40), (0, .class_ 41), (0, .nameAndType 42 43), (0, u "java/lang/Math"), (0, u "min"), (0, u "(II)I"), (9, u "([BI)C"), (34, .methodref 14 89), (0, .nameAndType 90 91), (0, u "canEncode"), (0, u "(I)Z"), (0, .methodref 39 93), (0, .nameAndType 94 43), (0, u "max"), (0, .methodref 14 96), (0, .nameAndType 97 98), (0, u "indexOfChar"), (0, u "([BIII)I"), (2, u "indexOf"), (10, .methodref 1 113), (0, .nameAndType 7 114), (0, u "([BB)V"), (6, u "$assertionsDisabled"), (0, u "Z"), (8, .class_ 133), (1, u "java/util/Arrays"), (62, u "newString"), (0, u "([BII)Ljava/lang/String;"), (23, .class_ 223), (1, u "java/lang/StringLatin1$LinesSpliterator"), (8, .methodref 131 233), (0, .nameAndType 234 235), (0, u "copyOfRange"), (0, u "([BII)[B"), (16, u "charAt"), (137, .class_ 391), (0, u "java/lang/StringLatin1$CharsSpliterator")] 3

def k10m0 : Method := { name := "<init>", desc := "()V", sig := { parameters := [], returnType := none }, accessFlags := 0, code := none }
def k10c1 : Code := { maxStack := 2, maxLocals := 2, code := jdk_43_method_2_code, exceptionTable := #[], attributes := #[] }
def k10m1 : Method := { name := "charAt", desc := "([BI)C", sig := { parameters := [(.array .byte), .int], returnType := some .char }, accessFlags := 9, code := some k10c1 }
def k10c2 : Code := { maxStack := 2, maxLocals := 1, code := jdk_43_method_4_code, exceptionTable := #[], attributes := #[] }
def k10m2 : Method := { name := "canEncode", desc := "(I)Z", sig := { parameters := [.int], returnType := some .boolean }, accessFlags := 9, code := some k10c2 }
def k10c3 : Code := { maxStack := 4, maxLocals := 4, code := jdk_43_method_22_code, exceptionTable := #[], attributes := #[] }
def k10m3 : Method := { name := "indexOf", desc := "([BIII)I", sig := { parameters := [(.array .byte), .int, .int, .int], returnType := some .int }, accessFlags := 9, code := some k10c3 }
def k10c4 : Code := { maxStack := 2, maxLocals := 6, code := jdk_43_method_23_code, exceptionTable := #[], attributes := #[] }
def k10m4 : Method := { name := "indexOfChar", desc := "([BIII)I", sig := { parameters := [(.array .byte), .int, .int, .int], returnType := some .int }, accessFlags := 10, code := some k10c4 }
def k10c5 : Code := { maxStack := 6, maxLocals := 3, code := jdk_43_method_47_code, exceptionTable := #[], attributes := #[] }
def k10m5 : Method := { name := "newString", desc := "([BII)Ljava/lang/String;", sig := { parameters := [(.array .byte), .int, .int], returnType := some (.object "java/lang/String") }, accessFlags := 9, code := some k10c5 }
/-- java/lang/StringLatin1 -/
def k10 : Class := { plain "java/lang/StringLatin1" (some 0) with
  accessFlags := 48
  interfaces := #[]
  cf := some (fileOf pool10 14 #[.nestMembers #[390, 221]] #[{ accessFlags := 0, nameIndex := 7, descriptorIndex := 8, attributes := #[] }, { accessFlags := 9, nameIndex := 252, descriptorIndex := 53, attributes := #[] }, { accessFlags := 9, nameIndex := 90, descriptorIndex := 91, attributes := #[] }, { accessFlags := 9, nameIndex := 101, descriptorIndex := 98, attributes := #[] }, { accessFlags := 10, nameIndex := 97, descriptorIndex := 98, attributes := #[] }, { accessFlags := 9, nameIndex := 196, descriptorIndex := 197, attributes := #[] }] 48 4 #[] #[{ accessFlags := 4120, nameIndex := 121, descriptorIndex := 122, attributes := #[] }])
  fields := #[{ name := "$assertionsDisabled", type := .boolean, accessFlags := 4120, slot := 0, constantValue := 0 }]
  methods := #[k10m0, k10m1, k10m2, k10m3, k10m4, k10m5]
  instanceTypes := #[]
  staticTypes := #[.boolean]
  resolved := Array.replicate 395 none
  statics := none }

def pool11 : Array CpInfo := pool [(1, .class_ 2), (0, u "java/lang/Math"), (1, .class_ 6), (1, u "java/lang/Object"), (0, u "<init>"), (0, u "()V"), (89, .class_ 100), (1, u "java/lang/Math$RandomNumberGeneratorHolder"), (71, u "negativeZeroFloatBits"), (0, u "J"), (2, u "negativeZeroDoubleBits"), (21, u "max"), (2, u "min"), (43, u "$assertionsDisabled"), (0, u "Z"), (88, u "(II)I"), (2, u "twoToTheDoubleScaleDown"), (0, u "D"), (4, u "twoToTheDoubleScaleUp"), (9, u "E"), (3, u "PI"), (2, u "TAU"), (2, u "DEGREES_TO_RADIANS"), (0, u "RADIANS_TO_DEGREES")] 94

def k11m0 : Method := { name := "<init>", desc := "()V", sig := { parameters := [], returnType := none }, accessFlags := 2, code := none }
def k11c1 : Code := { maxStack := 2, maxLocals := 2, code := jdk_29_method_65_code, exceptionTable := #[], attributes := #[] }
def k11m1 : Method := { name := "max", desc := "(II)I", sig := { parameters := [.int, .int], returnType := some .int }, accessFlags := 9, code := some k11c1 }
def k11c2 : Code := { maxStack := 2, maxLocals := 2, code := jdk_29_method_69_code, exceptionTable := #[], attributes := #[] }
def k11m2 : Method := { name := "min", desc := "(II)I", sig := { parameters := [.int, .int], returnType := some .int }, accessFlags := 9, code := some k11c2 }
/-- java/lang/Math -/
def k11 : Class := { plain "java/lang/Math" (some 0) with
  accessFlags := 49
  interfaces := #[]
  cf := some (fileOf pool11 1 #[.nestMembers #[98]] #[{ accessFlags := 2, nameIndex := 7, descriptorIndex := 8, attributes := #[] }, { accessFlags := 9, nameIndex := 198, descriptorIndex := 335, attributes := #[] }, { accessFlags := 9, nameIndex := 201, descriptorIndex := 335, attributes := #[] }] 49 4 #[] #[{ accessFlags := 25, nameIndex := 354, descriptorIndex := 339, attributes := #[] }, { accessFlags := 25, nameIndex := 358, descriptorIndex := 339, attributes := #[] }, { accessFlags := 25, nameIndex := 361, descriptorIndex := 339, attributes := #[] }, { accessFlags := 26, nameIndex := 364, descriptorIndex := 339, attributes := #[] }, { accessFlags := 26, nameIndex := 365, descriptorIndex := 339, attributes := #[] }, { accessFlags := 26, nameIndex := 172, descriptorIndex := 173, attributes := #[] }, { accessFlags := 26, nameIndex := 176, descriptorIndex := 173, attributes := #[] }, { accessFlags := 8, nameIndex := 344, descriptorIndex := 339, attributes := #[] }, { accessFlags := 8, nameIndex := 338, descriptorIndex := 339, attributes := #[] }, { accessFlags := 4120, nameIndex := 245, descriptorIndex := 246, attributes := #[] }])
  fields := #[{ name := "E", type := .double, accessFlags := 25, slot := 0, constantValue := 0 }, { name := "PI", type := .double, accessFlags := 25, slot := 1, constantValue := 0 }, { name := "TAU", type := .double, accessFlags := 25, slot := 2, constantValue := 0 }, { name := "DEGREES_TO_RADIANS", type := .double, accessFlags := 26, slot := 3, constantValue := 0 }, { name := "RADIANS_TO_DEGREES", type := .double, accessFlags := 26, slot := 4, constantValue := 0 }, { name := "negativeZeroFloatBits", type := .long, accessFlags := 26, slot := 5, constantValue := 0 }, { name := "negativeZeroDoubleBits", type := .long, accessFlags := 26, slot := 6, constantValue := 0 }, { name := "twoToTheDoubleScaleUp", type := .double, accessFlags := 8, slot := 7, constantValue := 0 }, { name := "twoToTheDoubleScaleDown", type := .double, accessFlags := 8, slot := 8, constantValue := 0 }, { name := "$assertionsDisabled", type := .boolean, accessFlags := 4120, slot := 9, constantValue := 0 }]
  methods := #[k11m0, k11m1, k11m2]
  instanceTypes := #[]
  staticTypes := #[.double, .double, .double, .double, .double, .long, .long, .double, .double, .boolean]
  resolved := Array.replicate 460 none
  statics := none }

def pool12 : Array CpInfo := pool [(2, .class_ 4), (1, u "java/lang/Object"), (0, u "<init>"), (0, u "()V"), (17, .class_ 26), (1, u "jdk/internal/util/Preconditions"), (6, u "checkIndex"), (13, u "checkFromToIndex"), (7, .class_ 56), (0, u "jdk/internal/util/Preconditions$4"), (57, .class_ 115), (0, u "jdk/internal/util/Preconditions$1"), (7, u "SIOOBE_FORMATTER"), (0, u "Ljava/util/function/BiFunction;"), (0, .class_ 126), (0, u "jdk/internal/util/Preconditions$2"), (3, u "AIOOBE_FORMATTER"), (0, .class_ 132), (0, u "jdk/internal/util/Preconditions$3"), (3, u "IOOBE_FORMATTER"), (41, u "(IILjava/util/function/BiFunction;)I"), (4, u "(IIILjava/util/function/BiFunction;)I")] 10

def k12m0 : Method := { name := "<init>", desc := "()V", sig := { parameters := [], returnType := none }, accessFlags := 1, code := none }
def k12c1 : Code := { maxStack := 3, maxLocals := 3, code := jdk_41_method_11_code, exceptionTable := #[], attributes := #[] }
def k12m1 : Method := { name := "checkIndex", desc := "(IILjava/util/function/BiFunction;)I", sig := { parameters := [.int, .int, (.object "java/util/function/BiFunction")], returnType := some .int }, accessFlags := 9, code := some k12c1 }
def k12c2 : Code := { maxStack := 4, maxLocals := 4, code := jdk_41_method_12_code, exceptionTable := #[], attributes := #[] }
def k12m2 : Method := { name := "checkFromToIndex", desc := "(IIILjava/util/function/BiFunction;)I", sig := { parameters := [.int, .int, .int, (.object "java/util/function/BiFunction")], returnType := some .int }, accessFlags := 9, code := some k12c2 }
/-- jdk/internal/util/Preconditions -/
def k12 : Class := { plain "jdk/internal/util/Preconditions" (some 0) with
  accessFlags := 33
  interfaces := #[]
  cf := some (fileOf pool12 24 #[.nestMembers #[55, 131, 125, 114]] #[{ accessFlags := 1, nameIndex := 5, descriptorIndex := 6, attributes := #[] }, { accessFlags := 9, nameIndex := 33, descriptorIndex := 178, attributes := #[] }, { accessFlags := 9, nameIndex := 47, descriptorIndex := 183, attributes := #[] }] 33 2 #[] #[{ accessFlags := 25, nameIndex := 123, descriptorIndex := 124, attributes := #[] }, { accessFlags := 25, nameIndex := 130, descriptorIndex := 124, attributes := #[] }, { accessFlags := 25, nameIndex := 136, descriptorIndex := 124, attributes := #[] }])
  fields := #[{ name := "SIOOBE_FORMATTER", type := (.object "java/util/function/BiFunction"), accessFlags := 25, slot := 0, constantValue := 0 }, { name := "AIOOBE_FORMATTER", type := (.object "java/util/function/BiFunction"), accessFlags := 25, slot := 1, constantValue := 0 }, { name := "IOOBE_FORMATTER", type := (.object "java/util/function/BiFunction"), accessFlags := 25, slot := 2, constantValue := 0 }]
  methods := #[k12m0, k12m1, k12m2]
  instanceTypes := #[]
  staticTypes := #[(.object "java/util/function/BiFunction"), (.object "java/util/function/BiFunction"), (.object "java/util/function/BiFunction")]
  resolved := Array.replicate 194 none
  statics := some 1 }

def pool13 : Array CpInfo := pool [(2, .class_ 4), (1, u "java/lang/Object"), (0, u "<init>"), (0, u "()V"), (7, .class_ 16), (1, u "java/util/Arrays"), (57, .class_ 76), (1, u "java/util/Arrays$NaturalOrder"), (36, .class_ 115), (1, u "java/util/Arrays$LegacyMergeSort"), (1, u "Z"), (21, u "copyOfRange"), (10, .methodref 151 152), (0, .class_ 153), (0, .nameAndType 154 155), (0, u "java/lang/System"), (0, u "arraycopy"), (0, u "(Ljava/lang/Object;ILjava/lang/Object;II)V"), (148, .methodref 305 306), (0, .class_ 307), (0, .nameAndType 308 309), (0, u "java/lang/Math"), (0, u "min"), (0, u "(II)I"), (29, .methodref 14 340), (0, .nameAndType 341 342), (0, u "copyOfRangeByte"), (0, u "([BII)[B"), (0, .methodref 14 344), (0, .nameAndType 345 346), (0, u "checkLength"), (0, u "(II)V"), (28, .class_ 376), (0, u "java/util/Arrays$ArrayList"), (68, u "$assertionsDisabled"), (269, u "MIN_ARRAY_SORT_GRAN"), (0, u "I"), (2, u "INSERTIONSORT_THRESHOLD"), (255, .class_ 976), (0, u "java/util/Arrays$ArrayItr")] 52

def k13m0 : Method := { name := "<init>", desc := "()V", sig := { parameters := [], returnType := none }, accessFlags := 2, code := none }
def k13c1 : Code := { maxStack := 4, maxLocals := 2, code := jdk_65_method_131_code, exceptionTable := #[], attributes := #[] }
def k13m1 : Method := { name := "checkLength", desc := "(II)V", sig := { parameters := [.int, .int], returnType := none }, accessFlags := 10, code := some k13c1 }
def k13c2 : Code := { maxStack := 3, maxLocals := 3, code := jdk_65_method_132_code, exceptionTable := #[], attributes := #[] }
def k13m2 : Method := { name := "copyOfRange", desc := "([BII)[B", sig := { parameters := [(.array .byte), .int, .int], returnType := some (.array .byte) }, accessFlags := 9, code := some k13c2 }
def k13c3 : Code := { maxStack := 6, maxLocals := 5, code := jdk_65_method_133_code, exceptionTable := #[], attributes := #[] }
def k13m3 : Method := { name := "copyOfRangeByte", desc := "([BII)[B", sig := { parameters := [(.array .byte), .int, .int], returnType := some (.array .byte) }, accessFlags := 10, code := some k13c3 }
/-- java/util/Arrays -/
def k13 : Class := { plain "java/util/Arrays" (some 0) with
  accessFlags := 49
  interfaces := #[]
  cf := some (fileOf pool13 14 #[.nestMembers #[975, 375, 113, 74]] #[{ accessFlags := 2, nameIndex := 5, descriptorIndex := 6, attributes := #[] }, { accessFlags := 10, nameIndex := 345, descriptorIndex := 346, attributes := #[] }, { accessFlags := 9, nameIndex := 139, descriptorIndex := 342, attributes := #[] }, { accessFlags := 10, nameIndex := 341, descriptorIndex := 342, attributes := #[] }] 49 2 #[] #[{ accessFlags := 26, nameIndex := 715, descriptorIndex := 716, attributes := #[] }, { accessFlags := 26, nameIndex := 719, descriptorIndex := 716, attributes := #[] }, { accessFlags := 4120, nameIndex := 445, descriptorIndex := 117, attributes := #[] }])
  fields := #[{ name := "MIN_ARRAY_SORT_GRAN", type := .int, accessFlags := 26, slot := 0, constantValue := 0 }, { name := "INSERTIONSORT_THRESHOLD", type := .int, accessFlags := 26, slot := 1, constantValue := 0 }, { name := "$assertionsDisabled", type := .boolean, accessFlags := 4120, slot := 2, constantValue := 0 }]
  methods := #[k13m0, k13m1, k13m2, k13m3]
  instanceTypes := #[]
  staticTypes := #[.int, .int, .boolean]
  resolved := Array.replicate 1029 none
  statics := none }

def pool14 : Array CpInfo := pool [(2, .class_ 4), (1, u "java/lang/Object"), (0, u "<init>"), (0, u "()V"), (1, .class_ 10), (1, u "java/lang/System"), (0, u "allowSecurityManager"), (0, u "I"), (16, u "cons"), (0, u "Ljava/io/Console;"), (77, .class_ 110), (1, u "java/lang/System$CallersHolder"), (43, u "initialErrStream"), (0, u "Ljava/io/PrintStream;"), (19, u "security"), (0, u "Ljava/lang/SecurityManager;"), (31, .class_ 209), (0, u "java/lang/System$1"), (7, u "props"), (0, u "Ljava/util/Properties;"), (2, u "lineSeparator"), (0, u "Ljava/lang/String;"), (96, .class_ 321), (1, u "java/lang/System$LoggerFinder"), (5, .class_ 328), (0, u "java/lang/System$Logger"), (67, u "err"), (2, u "out"), (91, u "notSupportedJnuEncoding"), (15, u "in"), (17, u "initialIn"), (0, u "Ljava/io/InputStream;"), (35, u "bootLayer"), (0, u "Ljava/lang/ModuleLayer;"), (99, .class_ 664), (0, u "java/lang/System$2"), (9, u "NEVER"), (2, u "MAYBE"), (49, u "arraycopy"), (0, u "(Ljava/lang/Object;ILjava/lang/Object;II)V"), (72, .class_ 802), (0, u "java/lang/System$Logger$Level")] 31

def k14m0 : Method := { name := "<init>", desc := "()V", sig := { parameters := [], returnType := none }, accessFlags := 2, code := none }
def k14m1 : Method := { name := "arraycopy", desc := "(Ljava/lang/Object;ILjava/lang/Object;II)V", sig := { parameters := [(.object "java/lang/Object"), .int, (.object "java/lang/Object"), .int, .int], returnType := none }, accessFlags := 265, code := none }
/-- java/lang/System -/
def k14 : Class := { plain "java/lang/System" (some 0) with
  accessFlags := 49
  interfaces := #[]
  cf := some (fileOf pool14 8 #[.nestMembers #[319, 327, 801, 108, 663, 208]] #[{ accessFlags := 2, nameIndex := 5, descriptorIndex := 6, attributes := #[] }, { accessFlags := 265, nameIndex := 727, descriptorIndex := 728, attributes := #[] }] 49 2 #[] #[{ accessFlags := 25, nameIndex := 507, descriptorIndex := 526, attributes := #[] }, { accessFlags := 25, nameIndex := 399, descriptorIndex := 155, attributes := #[] }, { accessFlags := 25, nameIndex := 396, descriptorIndex := 155, attributes := #[] }, { accessFlags := 10, nameIndex := 525, descriptorIndex := 526, attributes := #[] }, { accessFlags := 26, nameIndex := 674, descriptorIndex := 12, attributes := #[] }, { accessFlags := 26, nameIndex := 677, descriptorIndex := 12, attributes := #[] }, { accessFlags := 10, nameIndex := 11, descriptorIndex := 12, attributes := #[] }, { accessFlags := 74, nameIndex := 175, descriptorIndex := 176, attributes := #[] }, { accessFlags := 10, nameIndex := 491, descriptorIndex := 222, attributes := #[] }, { accessFlags := 74, nameIndex := 29, descriptorIndex := 30, attributes := #[] }, { accessFlags := 74, nameIndex := 154, descriptorIndex := 155, attributes := #[] }, { accessFlags := 10, nameIndex := 217, descriptorIndex := 218, attributes := #[] }, { accessFlags := 10, nameIndex := 221, descriptorIndex := 222, attributes := #[] }, { accessFlags := 8, nameIndex := 562, descriptorIndex := 563, attributes := #[] }])
  fields := #[{ name := "in", type := (.object "java/io/InputStream"), accessFlags := 25, slot := 0, constantValue := 0 }, { name := "out", type := (.object "java/io/PrintStream"), accessFlags := 25, slot := 1, constantValue := 0 }, { name := "err", type := (.object "java/io/PrintStream"), accessFlags := 25, slot := 2, constantValue := 0 }, { name := "initialIn", type := (.object "java/io/InputStream"), accessFlags := 10, slot := 3, constantValue := 0 }, { name := "NEVER", type := .int, accessFlags := 26, slot := 4, constantValue := 0 }, { name := "MAYBE", type := .int, accessFlags := 26, slot := 5, constantValue := 0 }, { name := "allowSecurityManager", type := .int, accessFlags := 10, slot := 6, constantValue := 0 }, { name := "security", type := (.object "java/lang/SecurityManager"), accessFlags := 74, slot := 7, constantValue := 0 }, { name := "notSupportedJnuEncoding", type := (.object "java/lang/String"), accessFlags := 10, slot := 8, constantValue := 0 }, { name := "cons", type := (.object "java/io/Console"), accessFlags := 74, slot := 9, constantValue := 0 }, { name := "initialErrStream", type := (.object "java/io/PrintStream"), accessFlags := 74, slot := 10, constantValue := 0 }, { name := "props", type := (.object "java/util/Properties"), accessFlags := 10, slot := 11, constantValue := 0 }, { name := "lineSeparator", type := (.object "java/lang/String"), accessFlags := 10, slot := 12, constantValue := 0 }, { name := "bootLayer", type := (.object "java/lang/ModuleLayer"), accessFlags := 8, slot := 13, constantValue := 0 }]
  methods := #[k14m0, k14m1]
  instanceTypes := #[]
  staticTypes := #[(.object "java/io/InputStream"), (.object "java/io/PrintStream"), (.object "java/io/PrintStream"), (.object "java/io/InputStream"), .int, .int, .int, (.object "java/lang/SecurityManager"), (.object "java/lang/String"), (.object "java/io/Console"), (.object "java/io/PrintStream"), (.object "java/util/Properties"), (.object "java/lang/String"), (.object "java/lang/ModuleLayer")]
  resolved := Array.replicate 834 none
  statics := none }

def pool15 : Array CpInfo := pool [(9, u "<init>"), (6, .class_ 18), (1, u "java/lang/Object"), (0, u "()V"), (1, .class_ 23), (1, u "jdk/internal/util/ArraysSupport"), (0, u "LOG2_ARRAY_LONG_INDEX_SCALE"), (0, u "I"), (2, u "U"), (0, u "Ljdk/internal/misc/Unsafe;"), (8, u "BIG_ENDIAN"), (0, u "Z"), (8, u "LOG2_BYTE_BIT_SIZE"), (4, u "LOG2_ARRAY_INT_INDEX_SCALE"), (54, u "JLA"), (0, u "Ljdk/internal/access/JavaLangAccess;"), (11, u "LOG2_ARRAY_BOOLEAN_INDEX_SCALE"), (9, u "LOG2_ARRAY_BYTE_INDEX_SCALE"), (5, u "LOG2_ARRAY_CHAR_INDEX_SCALE"), (5, u "LOG2_ARRAY_SHORT_INDEX_SCALE"), (18, u "LOG2_ARRAY_FLOAT_INDEX_SCALE"), (24, u "LOG2_ARRAY_DOUBLE_INDEX_SCALE"), (89, u "T_BOOLEAN"), (2, u "T_CHAR"), (1, u "T_FLOAT"), (1, u "T_DOUBLE"), (1, u "T_BYTE"), (1, u "T_SHORT"), (1, u "T_INT"), (1, u "T_LONG"), (1, u "SOFT_MAX_ARRAY_LENGTH")] 83

def k15m0 : Method := { name := "<init>", desc := "()V", sig := { parameters := [], returnType := none }, accessFlags := 2, code := none }
/-- jdk/internal/util/ArraysSupport -/
def k15 : Class := { plain "jdk/internal/util/ArraysSupport" (some 0) with
  accessFlags := 33
  interfaces := #[]
  cf := some (fileOf pool15 21 #[] #[{ accessFlags := 2, nameIndex := 9, descriptorIndex := 19, attributes := #[] }] 33 16 #[] #[{ accessFlags := 24, nameIndex := 28, descriptorIndex := 29, attributes := #[] }, { accessFlags := 26, nameIndex := 38, descriptorIndex := 39, attributes := #[] }, { accessFlags := 25, nameIndex := 121, descriptorIndex := 25, attributes := #[] }, { accessFlags := 25, nameIndex := 131, descriptorIndex := 25, attributes := #[] }, { accessFlags := 25, nameIndex := 137, descriptorIndex := 25, attributes := #[] }, { accessFlags := 25, nameIndex := 143, descriptorIndex := 25, attributes := #[] }, { accessFlags := 25, nameIndex := 53, descriptorIndex := 25, attributes := #[] }, { accessFlags := 25, nameIndex := 24, descriptorIndex := 25, attributes := #[] }, { accessFlags := 25, nameIndex := 162, descriptorIndex := 25, attributes := #[] }, { accessFlags := 25, nameIndex := 187, descriptorIndex := 25, attributes := #[] }, { accessFlags := 26, nameIndex := 48, descriptorIndex := 25, attributes := #[] }, { accessFlags := 25, nameIndex := 277, descriptorIndex := 25, attributes := #[] }, { accessFlags := 25, nameIndex := 280, descriptorIndex := 25, attributes := #[] }, { accessFlags := 25, nameIndex := 282, descriptorIndex := 25, attributes := #[] }, { accessFlags := 25, nameIndex := 284, descriptorIndex := 25, attributes := #[] }, { accessFlags := 25, nameIndex := 286, descriptorIndex := 25, attributes := #[] }, { accessFlags := 25, nameIndex := 288, descriptorIndex := 25, attributes := #[] }, { accessFlags := 25, nameIndex := 290, descriptorIndex := 25, attributes := #[] }, { accessFlags := 25, nameIndex := 292, descriptorIndex := 25, attributes := #[] }, { accessFlags := 26, nameIndex := 108, descriptorIndex := 109, attributes := #[] }, { accessFlags := 25, nameIndex := 294, descriptorIndex := 25, attributes := #[] }])
  fields := #[{ name := "U", type := (.object "jdk/internal/misc/Unsafe"), accessFlags := 24, slot := 0, constantValue := 0 }, { name := "BIG_ENDIAN", type := .boolean, accessFlags := 26, slot := 1, constantValue := 0 }, { name := "LOG2_ARRAY_BOOLEAN_INDEX_SCALE", type := .int, accessFlags := 25, slot := 2, constantValue := 0 }, { name := "LOG2_ARRAY_BYTE_INDEX_SCALE", type := .int, accessFlags := 25, slot := 3, constantValue := 0 }, { name := "LOG2_ARRAY_CHAR_INDEX_SCALE", type := .int, accessFlags := 25, slot := 4, constantValue := 0 }, { name := "LOG2_ARRAY_SHORT_INDEX_SCALE", type := .int, accessFlags := 25, slot := 5, constantValue := 0 }, { name := "LOG2_ARRAY_INT_INDEX_SCALE", type := .int, accessFlags := 25, slot := 6, constantValue := 0 }, { name := "LOG2_ARRAY_LONG_INDEX_SCALE", type := .int, accessFlags := 25, slot := 7, constantValue := 0 }, { name := "LOG2_ARRAY_FLOAT_INDEX_SCALE", type := .int, accessFlags := 25, slot := 8, constantValue := 0 }, { name := "LOG2_ARRAY_DOUBLE_INDEX_SCALE", type := .int, accessFlags := 25, slot := 9, constantValue := 0 }, { name := "LOG2_BYTE_BIT_SIZE", type := .int, accessFlags := 26, slot := 10, constantValue := 0 }, { name := "T_BOOLEAN", type := .int, accessFlags := 25, slot := 11, constantValue := 0 }, { name := "T_CHAR", type := .int, accessFlags := 25, slot := 12, constantValue := 0 }, { name := "T_FLOAT", type := .int, accessFlags := 25, slot := 13, constantValue := 0 }, { name := "T_DOUBLE", type := .int, accessFlags := 25, slot := 14, constantValue := 0 }, { name := "T_BYTE", type := .int, accessFlags := 25, slot := 15, constantValue := 0 }, { name := "T_SHORT", type := .int, accessFlags := 25, slot := 16, constantValue := 0 }, { name := "T_INT", type := .int, accessFlags := 25, slot := 17, constantValue := 0 }, { name := "T_LONG", type := .int, accessFlags := 25, slot := 18, constantValue := 0 }, { name := "JLA", type := (.object "jdk/internal/access/JavaLangAccess"), accessFlags := 26, slot := 19, constantValue := 0 }, { name := "SOFT_MAX_ARRAY_LENGTH", type := .int, accessFlags := 25, slot := 20, constantValue := 0 }]
  methods := #[k15m0]
  instanceTypes := #[]
  staticTypes := #[(.object "jdk/internal/misc/Unsafe"), .boolean, .int, .int, .int, .int, .int, .int, .int, .int, .int, .int, .int, .int, .int, .int, .int, .int, .int, (.object "jdk/internal/access/JavaLangAccess"), .int]
  resolved := Array.replicate 378 none
  statics := none }

def pool16 : Array CpInfo := pool [(1, u "java/lang/Cloneable"), (0, .class_ 1), (0, u "java/lang/Object"), (0, .class_ 3)] 3

/-- java/lang/Cloneable -/
def k16 : Class := { plain "java/lang/Cloneable" (some 0) with
  accessFlags := 1537
  interfaces := #[]
  cf := some (fileOf pool16 2 #[] #[] 1537 4 #[] #[])
  fields := #[]
  methods := #[]
  instanceTypes := #[]
  staticTypes := #[]
  resolved := Array.replicate 8 none
  statics := none }

/-- the primitive byte -/
def k17 : Class := { plain "byte" none with kind := .primitive 'B', accessFlags := 0x411 }
/-- [B -/
def k18 : Class := { plain "[B" (some 0) with kind := .array 17 .byte, interfaces := #[16, 2], accessFlags := 1041 }

/-- the primitive char -/
def k19 : Class := { plain "char" none with kind := .primitive 'C', accessFlags := 0x411 }
/-- [C -/
def k20 : Class := { plain "[C" (some 0) with kind := .array 19 .char, interfaces := #[16, 2], accessFlags := 1041 }

/-- the primitive int -/
def k21 : Class := { plain "int" none with kind := .primitive 'I', accessFlags := 0x411 }
/-- [I -/
def k22 : Class := { plain "[I" (some 0) with kind := .array 21 .int, interfaces := #[16, 2], accessFlags := 1041 }

def heap : Heap := #[{ cls := 7, slots := #[.long 0, .int 1, .null, .int 0, .null, .int 0, .int 0], vm := .statics 7 },
  { cls := 12, slots := #[.null, .null, .null], vm := .statics 12 }]
def classes : Array Class := #[k0, k1, k2, k3, k4, k5, k6, k7, k8, k9, k10, k11, k12, k13, k14, k15, k16, k17, k18, k19, k20, k21, k22]
def interned : List (Array UInt16 × Addr) := []
def slotsUsed : Nat := 10
def theMethod : MethodId := ⟨1, 3⟩
def args0 : Array Value := #[.int 5, .int 5]
def aboutOver (below : List Frame) : State where
  vm := { classes := classes, interned := interned.toArray }
  heap := heap
  slotsUsed := slotsUsed
  threads := #[{ frames := .invoking theMethod args0 :: below }]
def below0 : List Frame := [.native { method := ⟨0, 0⟩, args := #[] }]
def about1 : State := aboutOver below0
def p0 : Program := .bare "" "" ""
def e0 : Env := launch0.env 0 0 0
theorem w_frames : about1.frames = Frame.invoking theMethod args0 :: below0 := rfl
set_option maxRecDepth 65536 in
theorem w_args : argsFit about1.vm theMethod args0 = true := by decide +kernel
set_option maxRecDepth 65536 in
theorem w_heap : heapFits about1 = true := by decide +kernel
set_option maxRecDepth 65536 in
theorem w_runnable : about1.curStatus? = some .runnable := by decide +kernel
set_option maxRecDepth 65536 in
theorem w_alone : about1.alone = true := by decide +kernel
set_option maxRecDepth 65536 in
theorem w_named : about1.methodNamed? x = some theMethod := by decide +kernel
set_option maxRecDepth 65536 in
theorem w_hears : about1.hears theMethod below0 = true := by decide +kernel
set_option maxRecDepth 65536 in
theorem w_ripe : about1.ripe theMethod args0 below0 = true := by decide +kernel
theorem w_running : about1.status = .running := rfl
set_option maxRecDepth 65536 in
theorem w_room : about1.hasRoom e0.platform room_1 = true :=
  launch0.hasRoom_least _ room_1 (by decide +kernel) (by decide +kernel) (by decide +kernel) (by decide +kernel) (by decide +kernel) (by decide +kernel)
theorem allAtoms_all (ts : List Jvm.Cond) (a : Array Jvm.Value) (st : Jvm.State) : (allAtoms ts).before a st = ts.all (fun c => c.before a st) := by
  induction ts with
  | nil => rfl
  | cons c t ih =>
    show (Jvm.Cond.and c (allAtoms t)).before a st = _
    rw [Jvm.Cond.before_and, ih, List.all_cons]
def words1 : List Jvm.Cond := Jvm.Cond.code x code maxLocals ret :: tables_1
/-- a 'code' word, met by the world's own term for the bytes: nothing is compared byte by byte -/
theorem code_word {y : MethodName} {bytes : ByteArray} {mx : Nat} {rt : Option FieldType} {a : Array Value} {s : State} {m : MethodId} {meth : Method} {c : Code} (h1 : s.methodNamed? y = some m) (h2 : s.vm.method? m = some meth) (h3 : meth.code = some c) (h4 : c.code = bytes)
    (h5 : (c.maxLocals == mx && c.exceptionTable.isEmpty && decide (c.maxStack ≤ mostOperands) && decide (meth.sig.returnType = rt) && !meth.locks && decide (parseMethodDescriptor y.desc = some meth.sig)) = true) : (Jvm.Cond.code y bytes mx rt).before a s = true := by
  simp only [Bool.and_eq_true, beq_iff_eq, Bool.not_eq_true', decide_eq_true_eq] at h5
  obtain ⟨⟨⟨⟨⟨g1, g2⟩, g3⟩, g4⟩, g5⟩, g6⟩ := h5
  simp [Cond.before, Cond.holds, Cond.value, h1, h2, h3, h4, g1, g2, g3, g4, g5, g6]
def isCode : Jvm.Cond → Bool
  | .code _ _ _ _ => true
  | _ => false
theorem all_split {L : List Jvm.Cond} {P : Jvm.Cond → Bool} (h1 : L.all (fun c => isCode c || P c) = true) (h2 : ∀ c ∈ L.filter isCode, P c = true) : L.all P = true := by
  refine List.all_eq_true.mpr fun c hc => ?_
  have h := List.all_eq_true.mp h1 c hc
  rcases Bool.eq_false_or_eq_true (isCode c) with hi | hi
  · exact h2 c (List.mem_filter.mpr ⟨hc, hi⟩)
  · simpa [hi] using h
set_option maxRecDepth 65536 in
theorem w_c0 : (Jvm.Cond.code x code maxLocals ret).before args0 about1 = true := code_word (m := ⟨1, 3⟩) (meth := k1m3) (c := k1c3) (by decide +kernel) rfl rfl rfl (by decide +kernel)
set_option maxRecDepth 65536 in
theorem w_c1 : (Jvm.Cond.code ({ cls := "io/roadcrew/resolve/VersionReaderMajorPinLaw", name := "digit", desc := "(II)C" } : Jvm.MethodName) method_2_code (2 : Nat) (Option.some Jvm.ClassFile.FieldType.char)).before args0 about1 = true := code_word (m := ⟨1, 1⟩) (meth := k1m1) (c := k1c1) (by decide +kernel) rfl rfl rfl (by decide +kernel)
set_option maxRecDepth 65536 in
theorem w_c2 : (Jvm.Cond.code ({ cls := "java/lang/String", name := "<init>", desc := "([C)V" } : Jvm.MethodName) jdk_42_method_3_code (2 : Nat) (Option.none : Option Jvm.ClassFile.FieldType)).before args0 about1 = true := code_word (m := ⟨7, 1⟩) (meth := k7m1) (c := k7c1) (by decide +kernel) rfl rfl rfl (by decide +kernel)
set_option maxRecDepth 65536 in
theorem w_c3 : (Jvm.Cond.code ({ cls := "java/lang/String", name := "<init>", desc := "([CIILjava/lang/Void;)V" } : Jvm.MethodName) jdk_42_method_149_code (6 : Nat) (Option.none : Option Jvm.ClassFile.FieldType)).before args0 about1 = true := code_word (m := ⟨7, 7⟩) (meth := k7m7) (c := k7c7) (by decide +kernel) rfl rfl rfl (by decide +kernel)
set_option maxRecDepth 65536 in
theorem w_c4 : (Jvm.Cond.code ({ cls := "java/lang/Object", name := "<init>", desc := "()V" } : Jvm.MethodName) object_method_1_code (1 : Nat) (Option.none : Option Jvm.ClassFile.FieldType)).before args0 about1 = true := code_word (m := ⟨0, 0⟩) (meth := k0m0) (c := k0c0) (by decide +kernel) rfl rfl rfl (by decide +kernel)
set_option maxRecDepth 65536 in
theorem w_c5 : (Jvm.Cond.code ({ cls := "java/lang/StringUTF16", name := "compress", desc := "([CII)[B" } : Jvm.MethodName) jdk_52_method_16_code (6 : Nat) (Option.some (Jvm.ClassFile.FieldType.array Jvm.ClassFile.FieldType.byte))).before args0 about1 = true := code_word (m := ⟨8, 2⟩) (meth := k8m2) (c := k8c2) (by decide +kernel) rfl rfl rfl (by decide +kernel)
set_option maxRecDepth 65536 in
theorem w_c6 : (Jvm.Cond.code ({ cls := "java/lang/StringUTF16", name := "compress", desc := "([CI[BII)I" } : Jvm.MethodName) jdk_52_method_21_code (7 : Nat) (Option.some Jvm.ClassFile.FieldType.int)).before args0 about1 = true := code_word (m := ⟨8, 3⟩) (meth := k8m3) (c := k8c3) (by decide +kernel) rfl rfl rfl (by decide +kernel)
set_option maxRecDepth 65536 in
theorem w_c7 : (Jvm.Cond.code ({ cls := "java/lang/StringUTF16", name := "coderFromArrayLen", desc := "([BI)B" } : Jvm.MethodName) jdk_52_method_15_code (2 : Nat) (Option.some Jvm.ClassFile.FieldType.byte)).before args0 about1 = true := code_word (m := ⟨8, 1⟩) (meth := k8m1) (c := k8c1) (by decide +kernel) rfl rfl rfl (by decide +kernel)
set_option maxRecDepth 65536 in
theorem w_c8 : (Jvm.Cond.code ({ cls := "io/roadcrew/resolve/VersionReader", name := "major", desc := "(Ljava/lang/String;)Ljava/lang/String;" } : Jvm.MethodName) prog_11_method_3_code (1 : Nat) (Option.some (Jvm.ClassFile.FieldType.object "java/lang/String"))).before args0 about1 = true := code_word (m := ⟨9, 1⟩) (meth := k9m1) (c := k9c1) (by decide +kernel) rfl rfl rfl (by decide +kernel)
set_option maxRecDepth 65536 in
theorem w_c9 : (Jvm.Cond.code ({ cls := "java/lang/String", name := "indexOf", desc := "(I)I" } : Jvm.MethodName) jdk_42_method_79_code (2 : Nat) (Option.some Jvm.ClassFile.FieldType.int)).before args0 about1 = true := code_word (m := ⟨7, 4⟩) (meth := k7m4) (c := k7c4) (by decide +kernel) rfl rfl rfl (by decide +kernel)
set_option maxRecDepth 65536 in
theorem w_c10 : (Jvm.Cond.code ({ cls := "java/lang/String", name := "indexOf", desc := "(II)I" } : Jvm.MethodName) jdk_42_method_80_code (3 : Nat) (Option.some Jvm.ClassFile.FieldType.int)).before args0 about1 = true := code_word (m := ⟨7, 5⟩) (meth := k7m5) (c := k7c5) (by decide +kernel) rfl rfl rfl (by decide +kernel)
set_option maxRecDepth 65536 in
theorem w_c11 : (Jvm.Cond.code ({ cls := "java/lang/String", name := "isLatin1", desc := "()Z" } : Jvm.MethodName) jdk_42_method_154_code (1 : Nat) (Option.some Jvm.ClassFile.FieldType.boolean)).before args0 about1 = true := code_word (m := ⟨7, 10⟩) (meth := k7m10) (c := k7c10) (by decide +kernel) rfl rfl rfl (by decide +kernel)
set_option maxRecDepth 65536 in
theorem w_c12 : (Jvm.Cond.code ({ cls := "java/lang/String", name := "length", desc := "()I" } : Jvm.MethodName) jdk_42_method_54_code (1 : Nat) (Option.some Jvm.ClassFile.FieldType.int)).before args0 about1 = true := code_word (m := ⟨7, 2⟩) (meth := k7m2) (c := k7c2) (by decide +kernel) rfl rfl rfl (by decide +kernel)
set_option maxRecDepth 65536 in
theorem w_c13 : (Jvm.Cond.code ({ cls := "java/lang/String", name := "coder", desc := "()B" } : Jvm.MethodName) jdk_42_method_152_code (1 : Nat) (Option.some Jvm.ClassFile.FieldType.byte)).before args0 about1 = true := code_word (m := ⟨7, 9⟩) (meth := k7m9) (c := k7c9) (by decide +kernel) rfl rfl rfl (by decide +kernel)
set_option maxRecDepth 65536 in
theorem w_c14 : (Jvm.Cond.code ({ cls := "java/lang/StringLatin1", name := "indexOf", desc := "([BIII)I" } : Jvm.MethodName) jdk_43_method_22_code (4 : Nat) (Option.some Jvm.ClassFile.FieldType.int)).before args0 about1 = true := code_word (m := ⟨10, 3⟩) (meth := k10m3) (c := k10c3) (by decide +kernel) rfl rfl rfl (by decide +kernel)
set_option maxRecDepth 65536 in
theorem w_c15 : (Jvm.Cond.code ({ cls := "java/lang/StringLatin1", name := "canEncode", desc := "(I)Z" } : Jvm.MethodName) jdk_43_method_4_code (1 : Nat) (Option.some Jvm.ClassFile.FieldType.boolean)).before args0 about1 = true := code_word (m := ⟨10, 2⟩) (meth := k10m2) (c := k10c2) (by decide +kernel) rfl rfl rfl (by decide +kernel)
set_option maxRecDepth 65536 in
theorem w_c16 : (Jvm.Cond.code ({ cls := "java/lang/Math", name := "max", desc := "(II)I" } : Jvm.MethodName) jdk_29_method_65_code (2 : Nat) (Option.some Jvm.ClassFile.FieldType.int)).before args0 about1 = true := code_word (m := ⟨11, 1⟩) (meth := k11m1) (c := k11c1) (by decide +kernel) rfl rfl rfl (by decide +kernel)
set_option maxRecDepth 65536 in
theorem w_c17 : (Jvm.Cond.code ({ cls := "java/lang/Math", name := "min", desc := "(II)I" } : Jvm.MethodName) jdk_29_method_69_code (2 : Nat) (Option.some Jvm.ClassFile.FieldType.int)).before args0 about1 = true := code_word (m := ⟨11, 2⟩) (meth := k11m2) (c := k11c2) (by decide +kernel) rfl rfl rfl (by decide +kernel)
set_option maxRecDepth 65536 in
theorem w_c18 : (Jvm.Cond.code ({ cls := "java/lang/StringLatin1", name := "indexOfChar", desc := "([BIII)I" } : Jvm.MethodName) jdk_43_method_23_code (6 : Nat) (Option.some Jvm.ClassFile.FieldType.int)).before args0 about1 = true := code_word (m := ⟨10, 4⟩) (meth := k10m4) (c := k10c4) (by decide +kernel) rfl rfl rfl (by decide +kernel)
set_option maxRecDepth 65536 in
theorem w_c19 : (Jvm.Cond.code ({ cls := "java/lang/String", name := "substring", desc := "(II)Ljava/lang/String;" } : Jvm.MethodName) jdk_42_method_92_code (5 : Nat) (Option.some (Jvm.ClassFile.FieldType.object "java/lang/String"))).before args0 about1 = true := code_word (m := ⟨7, 6⟩) (meth := k7m6) (c := k7c6) (by decide +kernel) rfl rfl rfl (by decide +kernel)
set_option maxRecDepth 65536 in
theorem w_c20 : (Jvm.Cond.code ({ cls := "java/lang/String", name := "checkBoundsBeginEnd", desc := "(III)V" } : Jvm.MethodName) jdk_42_method_158_code (3 : Nat) (Option.none : Option Jvm.ClassFile.FieldType)).before args0 about1 = true := code_word (m := ⟨7, 12⟩) (meth := k7m12) (c := k7c12) (by decide +kernel) rfl rfl rfl (by decide +kernel)
set_option maxRecDepth 65536 in
theorem w_c21 : (Jvm.Cond.code ({ cls := "jdk/internal/util/Preconditions", name := "checkFromToIndex", desc := "(IIILjava/util/function/BiFunction;)I" } : Jvm.MethodName) jdk_41_method_12_code (4 : Nat) (Option.some Jvm.ClassFile.FieldType.int)).before args0 about1 = true := code_word (m := ⟨12, 2⟩) (meth := k12m2) (c := k12c2) (by decide +kernel) rfl rfl rfl (by decide +kernel)
set_option maxRecDepth 65536 in
theorem w_c22 : (Jvm.Cond.code ({ cls := "java/lang/StringLatin1", name := "newString", desc := "([BII)Ljava/lang/String;" } : Jvm.MethodName) jdk_43_method_47_code (3 : Nat) (Option.some (Jvm.ClassFile.FieldType.object "java/lang/String"))).before args0 about1 = true := code_word (m := ⟨10, 5⟩) (meth := k10m5) (c := k10c5) (by decide +kernel) rfl rfl rfl (by decide +kernel)
set_option maxRecDepth 65536 in
theorem w_c23 : (Jvm.Cond.code ({ cls := "java/util/Arrays", name := "copyOfRange", desc := "([BII)[B" } : Jvm.MethodName) jdk_65_method_132_code (3 : Nat) (Option.some (Jvm.ClassFile.FieldType.array Jvm.ClassFile.FieldType.byte))).before args0 about1 = true := code_word (m := ⟨13, 2⟩) (meth := k13m2) (c := k13c2) (by decide +kernel) rfl rfl rfl (by decide +kernel)
set_option maxRecDepth 65536 in
theorem w_c24 : (Jvm.Cond.code ({ cls := "java/util/Arrays", name := "copyOfRangeByte", desc := "([BII)[B" } : Jvm.MethodName) jdk_65_method_133_code (5 : Nat) (Option.some (Jvm.ClassFile.FieldType.array Jvm.ClassFile.FieldType.byte))).before args0 about1 = true := code_word (m := ⟨13, 3⟩) (meth := k13m3) (c := k13c3) (by decide +kernel) rfl rfl rfl (by decide +kernel)
set_option maxRecDepth 65536 in
theorem w_c25 : (Jvm.Cond.code ({ cls := "java/util/Arrays", name := "checkLength", desc := "(II)V" } : Jvm.MethodName) jdk_65_method_131_code (2 : Nat) (Option.none : Option Jvm.ClassFile.FieldType)).before args0 about1 = true := code_word (m := ⟨13, 1⟩) (meth := k13m1) (c := k13c1) (by decide +kernel) rfl rfl rfl (by decide +kernel)
set_option maxRecDepth 65536 in
theorem w_c26 : (Jvm.Cond.code ({ cls := "java/lang/String", name := "<init>", desc := "([BB)V" } : Jvm.MethodName) jdk_42_method_151_code (3 : Nat) (Option.none : Option Jvm.ClassFile.FieldType)).before args0 about1 = true := code_word (m := ⟨7, 8⟩) (meth := k7m8) (c := k7c8) (by decide +kernel) rfl rfl rfl (by decide +kernel)
set_option maxRecDepth 65536 in
theorem w_c27 : (Jvm.Cond.code ({ cls := "io/roadcrew/resolve/VersionReaderMajorPinLaw", name := "at", desc := "(Ljava/lang/String;III)Z" } : Jvm.MethodName) method_3_code (4 : Nat) (Option.some Jvm.ClassFile.FieldType.boolean)).before args0 about1 = true := code_word (m := ⟨1, 2⟩) (meth := k1m2) (c := k1c2) (by decide +kernel) rfl rfl rfl (by decide +kernel)
set_option maxRecDepth 65536 in
theorem w_c28 : (Jvm.Cond.code ({ cls := "java/lang/String", name := "charAt", desc := "(I)C" } : Jvm.MethodName) jdk_42_method_56_code (2 : Nat) (Option.some Jvm.ClassFile.FieldType.char)).before args0 about1 = true := code_word (m := ⟨7, 3⟩) (meth := k7m3) (c := k7c3) (by decide +kernel) rfl rfl rfl (by decide +kernel)
set_option maxRecDepth 65536 in
theorem w_c29 : (Jvm.Cond.code ({ cls := "java/lang/StringLatin1", name := "charAt", desc := "([BI)C" } : Jvm.MethodName) jdk_43_method_2_code (2 : Nat) (Option.some Jvm.ClassFile.FieldType.char)).before args0 about1 = true := code_word (m := ⟨10, 1⟩) (meth := k10m1) (c := k10c1) (by decide +kernel) rfl rfl rfl (by decide +kernel)
set_option maxRecDepth 65536 in
theorem w_c30 : (Jvm.Cond.code ({ cls := "java/lang/String", name := "checkIndex", desc := "(II)V" } : Jvm.MethodName) jdk_42_method_155_code (2 : Nat) (Option.none : Option Jvm.ClassFile.FieldType)).before args0 about1 = true := code_word (m := ⟨7, 11⟩) (meth := k7m11) (c := k7c11) (by decide +kernel) rfl rfl rfl (by decide +kernel)
set_option maxRecDepth 65536 in
theorem w_c31 : (Jvm.Cond.code ({ cls := "jdk/internal/util/Preconditions", name := "checkIndex", desc := "(IILjava/util/function/BiFunction;)I" } : Jvm.MethodName) jdk_41_method_11_code (3 : Nat) (Option.some Jvm.ClassFile.FieldType.int)).before args0 about1 = true := code_word (m := ⟨12, 1⟩) (meth := k12m1) (c := k12c1) (by decide +kernel) rfl rfl rfl (by decide +kernel)
def codes1 : List Jvm.Cond := [Jvm.Cond.code x code maxLocals ret, Jvm.Cond.code ({ cls := "io/roadcrew/resolve/VersionReaderMajorPinLaw", name := "digit", desc := "(II)C" } : Jvm.MethodName) method_2_code (2 : Nat) (Option.some Jvm.ClassFile.FieldType.char), Jvm.Cond.code ({ cls := "java/lang/String", name := "<init>", desc := "([C)V" } : Jvm.MethodName) jdk_42_method_3_code (2 : Nat) (Option.none : Option Jvm.ClassFile.FieldType), Jvm.Cond.code ({ cls := "java/lang/String", name := "<init>", desc := "([CIILjava/lang/Void;)V" } : Jvm.MethodName) jdk_42_method_149_code (6 : Nat) (Option.none : Option Jvm.ClassFile.FieldType), Jvm.Cond.code ({ cls := "java/lang/Object", name := "<init>", desc := "()V" } : Jvm.MethodName) object_method_1_code (1 : Nat) (Option.none : Option Jvm.ClassFile.FieldType), Jvm.Cond.code ({ cls := "java/lang/StringUTF16", name := "compress", desc := "([CII)[B" } : Jvm.MethodName) jdk_52_method_16_code (6 : Nat) (Option.some (Jvm.ClassFile.FieldType.array Jvm.ClassFile.FieldType.byte)), Jvm.Cond.code ({ cls := "java/lang/StringUTF16", name := "compress", desc := "([CI[BII)I" } : Jvm.MethodName) jdk_52_method_21_code (7 : Nat) (Option.some Jvm.ClassFile.FieldType.int), Jvm.Cond.code ({ cls := "java/lang/StringUTF16", name := "coderFromArrayLen", desc := "([BI)B" } : Jvm.MethodName) jdk_52_method_15_code (2 : Nat) (Option.some Jvm.ClassFile.FieldType.byte), Jvm.Cond.code ({ cls := "io/roadcrew/resolve/VersionReader", name := "major", desc := "(Ljava/lang/String;)Ljava/lang/String;" } : Jvm.MethodName) prog_11_method_3_code (1 : Nat) (Option.some (Jvm.ClassFile.FieldType.object "java/lang/String")), Jvm.Cond.code ({ cls := "java/lang/String", name := "indexOf", desc := "(I)I" } : Jvm.MethodName) jdk_42_method_79_code (2 : Nat) (Option.some Jvm.ClassFile.FieldType.int), Jvm.Cond.code ({ cls := "java/lang/String", name := "indexOf", desc := "(II)I" } : Jvm.MethodName) jdk_42_method_80_code (3 : Nat) (Option.some Jvm.ClassFile.FieldType.int), Jvm.Cond.code ({ cls := "java/lang/String", name := "isLatin1", desc := "()Z" } : Jvm.MethodName) jdk_42_method_154_code (1 : Nat) (Option.some Jvm.ClassFile.FieldType.boolean), Jvm.Cond.code ({ cls := "java/lang/String", name := "length", desc := "()I" } : Jvm.MethodName) jdk_42_method_54_code (1 : Nat) (Option.some Jvm.ClassFile.FieldType.int), Jvm.Cond.code ({ cls := "java/lang/String", name := "coder", desc := "()B" } : Jvm.MethodName) jdk_42_method_152_code (1 : Nat) (Option.some Jvm.ClassFile.FieldType.byte), Jvm.Cond.code ({ cls := "java/lang/StringLatin1", name := "indexOf", desc := "([BIII)I" } : Jvm.MethodName) jdk_43_method_22_code (4 : Nat) (Option.some Jvm.ClassFile.FieldType.int), Jvm.Cond.code ({ cls := "java/lang/StringLatin1", name := "canEncode", desc := "(I)Z" } : Jvm.MethodName) jdk_43_method_4_code (1 : Nat) (Option.some Jvm.ClassFile.FieldType.boolean), Jvm.Cond.code ({ cls := "java/lang/Math", name := "max", desc := "(II)I" } : Jvm.MethodName) jdk_29_method_65_code (2 : Nat) (Option.some Jvm.ClassFile.FieldType.int), Jvm.Cond.code ({ cls := "java/lang/Math", name := "min", desc := "(II)I" } : Jvm.MethodName) jdk_29_method_69_code (2 : Nat) (Option.some Jvm.ClassFile.FieldType.int), Jvm.Cond.code ({ cls := "java/lang/StringLatin1", name := "indexOfChar", desc := "([BIII)I" } : Jvm.MethodName) jdk_43_method_23_code (6 : Nat) (Option.some Jvm.ClassFile.FieldType.int), Jvm.Cond.code ({ cls := "java/lang/String", name := "substring", desc := "(II)Ljava/lang/String;" } : Jvm.MethodName) jdk_42_method_92_code (5 : Nat) (Option.some (Jvm.ClassFile.FieldType.object "java/lang/String")), Jvm.Cond.code ({ cls := "java/lang/String", name := "checkBoundsBeginEnd", desc := "(III)V" } : Jvm.MethodName) jdk_42_method_158_code (3 : Nat) (Option.none : Option Jvm.ClassFile.FieldType), Jvm.Cond.code ({ cls := "jdk/internal/util/Preconditions", name := "checkFromToIndex", desc := "(IIILjava/util/function/BiFunction;)I" } : Jvm.MethodName) jdk_41_method_12_code (4 : Nat) (Option.some Jvm.ClassFile.FieldType.int), Jvm.Cond.code ({ cls := "java/lang/StringLatin1", name := "newString", desc := "([BII)Ljava/lang/String;" } : Jvm.MethodName) jdk_43_method_47_code (3 : Nat) (Option.some (Jvm.ClassFile.FieldType.object "java/lang/String")), Jvm.Cond.code ({ cls := "java/util/Arrays", name := "copyOfRange", desc := "([BII)[B" } : Jvm.MethodName) jdk_65_method_132_code (3 : Nat) (Option.some (Jvm.ClassFile.FieldType.array Jvm.ClassFile.FieldType.byte)), Jvm.Cond.code ({ cls := "java/util/Arrays", name := "copyOfRangeByte", desc := "([BII)[B" } : Jvm.MethodName) jdk_65_method_133_code (5 : Nat) (Option.some (Jvm.ClassFile.FieldType.array Jvm.ClassFile.FieldType.byte)), Jvm.Cond.code ({ cls := "java/util/Arrays", name := "checkLength", desc := "(II)V" } : Jvm.MethodName) jdk_65_method_131_code (2 : Nat) (Option.none : Option Jvm.ClassFile.FieldType), Jvm.Cond.code ({ cls := "java/lang/String", name := "<init>", desc := "([BB)V" } : Jvm.MethodName) jdk_42_method_151_code (3 : Nat) (Option.none : Option Jvm.ClassFile.FieldType), Jvm.Cond.code ({ cls := "io/roadcrew/resolve/VersionReaderMajorPinLaw", name := "at", desc := "(Ljava/lang/String;III)Z" } : Jvm.MethodName) method_3_code (4 : Nat) (Option.some Jvm.ClassFile.FieldType.boolean), Jvm.Cond.code ({ cls := "java/lang/String", name := "charAt", desc := "(I)C" } : Jvm.MethodName) jdk_42_method_56_code (2 : Nat) (Option.some Jvm.ClassFile.FieldType.char), Jvm.Cond.code ({ cls := "java/lang/StringLatin1", name := "charAt", desc := "([BI)C" } : Jvm.MethodName) jdk_43_method_2_code (2 : Nat) (Option.some Jvm.ClassFile.FieldType.char), Jvm.Cond.code ({ cls := "java/lang/String", name := "checkIndex", desc := "(II)V" } : Jvm.MethodName) jdk_42_method_155_code (2 : Nat) (Option.none : Option Jvm.ClassFile.FieldType), Jvm.Cond.code ({ cls := "jdk/internal/util/Preconditions", name := "checkIndex", desc := "(IILjava/util/function/BiFunction;)I" } : Jvm.MethodName) jdk_41_method_11_code (3 : Nat) (Option.some Jvm.ClassFile.FieldType.int)]
set_option maxRecDepth 65536 in
theorem codes_eq : words1.filter isCode = codes1 := rfl
theorem w_codes : ∀ c ∈ words1.filter isCode, c.before args0 about1 = true := by
  rw [codes_eq]
  intro c hc
  simp only [codes1, List.mem_cons, List.not_mem_nil, or_false] at hc
  rcases hc with rfl | rfl | rfl | rfl | rfl | rfl | rfl | rfl | rfl | rfl | rfl | rfl | rfl | rfl | rfl | rfl | rfl | rfl | rfl | rfl | rfl | rfl | rfl | rfl | rfl | rfl | rfl | rfl | rfl | rfl | rfl | rfl
  · exact w_c0
  · exact w_c1
  · exact w_c2
  · exact w_c3
  · exact w_c4
  · exact w_c5
  · exact w_c6
  · exact w_c7
  · exact w_c8
  · exact w_c9
  · exact w_c10
  · exact w_c11
  · exact w_c12
  · exact w_c13
  · exact w_c14
  · exact w_c15
  · exact w_c16
  · exact w_c17
  · exact w_c18
  · exact w_c19
  · exact w_c20
  · exact w_c21
  · exact w_c22
  · exact w_c23
  · exact w_c24
  · exact w_c25
  · exact w_c26
  · exact w_c27
  · exact w_c28
  · exact w_c29
  · exact w_c30
  · exact w_c31
set_option maxRecDepth 65536 in
theorem w_t1 : (words1.take 24).all (fun c => isCode c || c.before args0 about1) = true := by decide +kernel
set_option maxRecDepth 65536 in
theorem w_t2 : ((words1.drop 24).take 24).all (fun c => isCode c || c.before args0 about1) = true := by decide +kernel
set_option maxRecDepth 65536 in
theorem w_t3 : (((words1.drop 24).drop 24).take 24).all (fun c => isCode c || c.before args0 about1) = true := by decide +kernel
set_option maxRecDepth 65536 in
theorem w_t4 : ((((words1.drop 24).drop 24).drop 24).take 24).all (fun c => isCode c || c.before args0 about1) = true := by decide +kernel
set_option maxRecDepth 65536 in
theorem w_t5 : (((((words1.drop 24).drop 24).drop 24).drop 24).take 24).all (fun c => isCode c || c.before args0 about1) = true := by decide +kernel
set_option maxRecDepth 65536 in
theorem w_t6 : (((((words1.drop 24).drop 24).drop 24).drop 24).drop 24).all (fun c => isCode c || c.before args0 about1) = true := by decide +kernel
theorem w_tables : (allAtoms (Jvm.Cond.code x code maxLocals ret :: tables_1)).before args0 about1 = true := by
  rw [allAtoms_all]
  show words1.all (fun c => c.before args0 about1) = true
  refine all_split ?_ w_codes
  rw [← List.take_append_drop 24 words1, List.all_append, w_t1, ← List.take_append_drop 24 (words1.drop 24), List.all_append, w_t2, ← List.take_append_drop 24 ((words1.drop 24).drop 24), List.all_append, w_t3, ← List.take_append_drop 24 (((words1.drop 24).drop 24).drop 24), List.all_append, w_t4, ← List.take_append_drop 24 ((((words1.drop 24).drop 24).drop 24).drop 24), List.all_append, w_t5, w_t6]
  rfl
set_option maxRecDepth 65536 in
theorem w_rest : rest_1_c.before args0 about1 = true := by decide +kernel
set_option maxRecDepth 65536 in
theorem w_case : (Jvm.Cond.and given_1 narrow_1).before args0 about1 = true := by decide +kernel
theorem w_applies : (headSpec (Jvm.Cond.code x code maxLocals ret :: tables_1) room_1).applies x e0.platform about1 = true :=
  (Spec.applies_iff w_frames).mpr ⟨w_running, w_runnable, w_alone, w_named, w_hears, w_ripe, w_room, w_tables⟩
theorem atStart : AtStart classFile x code maxLocals ret World_1 tables_1 room_1 Calls_1 rest_1 Pre_1 launch0 p0 e0 about1 theMethod args0 below0 :=
  ⟨lists_1, trivial, launch0.admits_env _ _ _, launch0.least_env, fairChoices_fair.cas, fairChoices_fair.clock, w_frames, w_args, w_heap, w_applies, trivial, w_rest, w_case⟩
end start1
theorem witness_1 : WitnessClaimed_1 := ⟨start1.p0, start1.e0, start1.about1, start1.theMethod, start1.args0, start1.below0, start1.atStart⟩
end Jvm.Pilot.@@N@@
