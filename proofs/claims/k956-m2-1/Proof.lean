import JvmDerived
import JvmDerived.Pilot.@@N@@Statement
import JvmDerived.Pilot.@@N@@Code
set_option linter.unusedVariables false
set_option linter.unusedSimpArgs false
namespace Jvm.RoadKit
open Sem ClassFile Op Lib Jvm.Stand Jvm.Free Jvm.LawKit
section New
variable {p : Program} {l : Launch} {e : Env} {R : Room} {s : State} {m : MethodId} {args : Array Value} {below : List Frame} {meth : Method} {c : Code} {T : State} {locs : List Loc} {cells slots : Nat}
theorem retI (X : Stand p l e R s m args below meth c T locs cells slots) (hx : p.tables.exec = Jvm.exec) {pc : Nat} {Ls : Array Slot} {z : Int32} {rest : List Value} (hret : meth.sig.returnType = some .int) (hd : decode c.code pc = .ok (.ireturn, 1)) {fs : List Frame}
    (hl : ∀ (f : JFrame) (acts : List Action), f.method = m → f.locked = none → f.entered = [] → (doReturn e (T.setTop f) acts (some (.int z))).1 = T.setFrames fs) : Steps p.tables e below (T.setTop (mkF m pc Ls (.int z :: rest))) (T.setFrames fs) := by
  have hm' : T.vm.method? m = some meth := X.method'
  have hn : narrow .int (.int z) = .int z := rfl
  show Steps p.tables e below (T.setTop { method := m, pc := pc, locals := Ls, stack := _ :: rest, locked := none }) _
  jvm_step X.here [X.here.top, hx, hd, hm', hret, hn]
  first | (intro acts; rw [hl _ acts rfl rfl rfl]) | rw [hl _ _ rfl rfl rfl]
  exact Steps.refl _
end New
end Jvm.RoadKit
/- laws to paste: Road.eqW (cut by pick.py; bodies as the Statement names them) -/
namespace Jvm.Pilot.@@N@@
namespace StrChars
open Jvm Sem ClassFile Op Lib Jvm.Stand Jvm.Free.XT Jvm.Free.ALB Jvm.Free.JM Jvm.Free
open Jvm.Lib.Cold (StaticIs)
/-- the byte that i2b leaves of a char -/
def lo8 (x : Int32) : Int32 := x.toInt8.toInt32
theorem fits_lo8 (y : Int32) : fits .byte (.int (lo8 y)) = true := by
  have h1 := y.toInt8.le_toInt
  have h2 := y.toInt8.toInt_lt
  simp only [lo8, fits, Bool.and_eq_true, decide_eq_true_eq, Int32.le_iff_toInt_le, Int8.toInt_toInt32, show (-128 : Int32).toInt = -128 from by decide, show (127 : Int32).toInt = 127 from by decide]
  omega
def U16 : String := "java/lang/StringUTF16"
/-- the byte, read back as charAt reads it, is the char -/
theorem lo8_mask {x : Int32} (h0 : ¬ x < 0) (h1 : ¬ 255 < x) : lo8 x &&& 255 = x := by
  have t : ∀ k : Fin 256, lo8 (Int32.ofNat k.val) &&& 255 = Int32.ofNat k.val := by decide +kernel
  rw [Int32.lt_iff_toInt_lt] at h0 h1
  have e0 : (0 : Int32).toInt = 0 := rfl
  have e1 : (255 : Int32).toInt = 255 := rfl
  obtain ⟨k, hk⟩ : ∃ k : Nat, x.toInt = k := ⟨x.toInt.toNat, by omega⟩
  have hx : x = Int32.ofNat k := Int32.toInt_inj.mp (by rw [hk, Int32.toInt_ofNat_small (by omega)])
  rw [hx]
  exact t ⟨k, by omega⟩
end StrChars
namespace StrChars.Road
open Jvm Sem ClassFile Op Lib Jvm.Stand Jvm.Free Jvm.Free.XT
open Jvm.Lib.Cold (StaticIs)
abbrev ST : String := "java/lang/String"
end StrChars.Road
namespace StrChars
open Jvm Sem ClassFile Op Lib Jvm.Stand Jvm.Free.XT Jvm.Free.ALB Jvm.Free.JM Jvm.Free
open Jvm.Lib.Cold (StaticIs)
def hi8 (x : Int32) : Int32 := lo8 (x >>> ((8 : Int32) &&& 31))
/-- what StringUTF16.getChar makes of two bytes -/
def pairCh (u v : Int32) : Int32 := (((u &&& 255) <<< ((0 : Int32) &&& 31)) ||| ((v &&& 255) <<< ((8 : Int32) &&& 31))).toUInt32.toUInt16.toUInt32.toInt32
theorem lo8_and (x : Int32) : (lo8 x &&& 255).toBitVec.toNat = x.toBitVec.toNat % 256 := by
  have h : (lo8 x).toBitVec = (x.toBitVec.signExtend 8).signExtend 32 := by rw [lo8, Int8.toBitVec_toInt32, Int32.toBitVec_toInt8]
  rw [Int32.toBitVec_and, BitVec.toNat_and, h]
  have e : ((x.toBitVec.signExtend 8).signExtend 32).toNat % 256 = x.toBitVec.toNat % 256 := by
    rw [BitVec.toNat_signExtend]
    have hlt := x.toBitVec.isLt
    simp only [BitVec.toNat_setWidth, BitVec.toNat_signExtend]
    split <;> split <;> omega
  rw [← e]
  exact Nat.and_two_pow_sub_one_eq_mod _ 8
theorem pair_says {c : Int32} (h0 : ¬ c < 0) (h1 : ¬ 65535 < c) : pairCh (lo8 c) (hi8 c) = c := by
  rw [Int32.lt_iff_toInt_lt] at h0 h1
  have e0 : (0 : Int32).toInt = 0 := rfl
  have e1 : (65535 : Int32).toInt = 65535 := rfl
  have hc : c.toInt = c.toBitVec.toNat := by
    have := c.toBitVec.isLt
    have e : c.toInt = c.toBitVec.toInt := rfl
    rw [e] at h0 h1
    rw [e]
    rw [BitVec.toInt_eq_toNat_cond] at h0 h1 ⊢
    split at h0 <;> split <;> omega
  have hn : c.toBitVec.toNat < 65536 := by omega
  have a1 := lo8_and c
  have a2 : (hi8 c &&& 255).toBitVec.toNat = c.toBitVec.toNat / 256 := by
    rw [hi8, lo8_and]
    have e : ((8 : Int32) &&& 31) = 8 := by decide
    rw [e, Int32.toBitVec_shiftRight]
    have e2 : ((8 : Int32).toBitVec.smod 32) = 8#32 := by decide
    rw [e2, BitVec.sshiftRight_eq', BitVec.toNat_sshiftRight_of_msb_false (by rw [BitVec.msb_eq_false_iff_two_mul_lt]; omega)]
    show c.toBitVec.toNat >>> 8 % 256 = _
    rw [Nat.shiftRight_eq_div_pow]
    omega
  unfold pairCh
  apply Int32.toBitVec_inj.mp
  apply BitVec.eq_of_toNat_eq
  have f0 : ((0 : Int32) &&& 31) = 0 := by decide
  have f8 : ((8 : Int32) &&& 31) = 8 := by decide
  rw [f0, f8]
  have g : (((lo8 c &&& 255) <<< (0 : Int32)) ||| ((hi8 c &&& 255) <<< (8 : Int32))).toBitVec.toNat = c.toBitVec.toNat := by
    rw [Int32.toBitVec_or, Int32.toBitVec_shiftLeft, Int32.toBitVec_shiftLeft]
    have s0 : ((0 : Int32).toBitVec.smod 32) = 0#32 := by decide
    have s8 : ((8 : Int32).toBitVec.smod 32) = 8#32 := by decide
    rw [s0, s8, BitVec.toNat_or]
    simp only [BitVec.shiftLeft_eq', BitVec.toNat_shiftLeft, a1, a2]
    show (c.toBitVec.toNat % 256) <<< 0 % 2 ^ 32 ||| (c.toBitVec.toNat / 256) <<< 8 % 2 ^ 32 = _
    rw [Nat.shiftLeft_zero, Nat.mod_eq_of_lt (show c.toBitVec.toNat % 256 < 2 ^ 32 by omega), Nat.mod_eq_of_lt (show (c.toBitVec.toNat / 256) <<< 8 < 2 ^ 32 by rw [Nat.shiftLeft_eq]; omega), Nat.or_comm, ← Nat.shiftLeft_add_eq_or_of_lt (by omega), Nat.shiftLeft_eq]
    omega
  show BitVec.toNat (((((lo8 c &&& 255) <<< (0 : Int32)) ||| ((hi8 c &&& 255) <<< (8 : Int32))).toBitVec.setWidth 16).setWidth 32) = _
  rw [BitVec.toNat_setWidth, BitVec.toNat_setWidth, g]
  omega
end StrChars
namespace StrChars
open Jvm Sem ClassFile Op Lib Jvm.Stand Jvm.Free.XT Jvm.Free.ALB Jvm.Free.JM Jvm.Free
open Jvm.Lib.Cold (StaticIs)
/-- the array's cell V codes the n chars f 0 .. f (n - 1) by the coder cd, as the JDK does: coder 1 just where some char is above 255 -/
def Cod (cd : Int32) (n : Nat) (f : Nat → Int32) (V : Cell) : Prop := (cd = 0 ∧ V.slots.size = n ∧ ∀ j, j < n → V.slots[j]? = some (.int (lo8 (f j))) ∧ ¬ 255 < f j) ∨ (cd = 1 ∧ V.slots.size = 2 * n ∧ (∀ j, j < n → V.slots[2 * j]? = some (.int (lo8 (f j))) ∧ V.slots[2 * j + 1]? = some (.int (hi8 (f j)))) ∧ ∃ j, j < n ∧ 255 < f j)
/-- **x is a String of the n chars f 0 .. f (n - 1)**, Latin-1 or UTF-16; its array at t has the cell V -/
def Txt (x t : Addr) (V : Cell) (cd : Int32) (n : Nat) (f : Nat → Int32) (U : State) : Prop := Exact "java/lang/String" x U ∧ Has x "java/lang/String" "value" "[B" (.ref t) U ∧ Has x "java/lang/String" "coder" "B" (.int cd) U ∧ XT.Arr .byte t V U ∧ Cod cd n f V ∧ ∀ j, j < n → ¬ f j < 0 ∧ ¬ 65535 < f j
theorem Txt.mv {x t : Addr} {V : Cell} {cd : Int32} {n : Nat} {f : Nat → Int32} {U U' : State} (h : Txt x t V cd n f U) (hal : U.vm.Alike U'.vm) (hh : U'.heap = U.heap) : Txt x t V cd n f U' := ⟨h.1.mv hal hh, h.2.1.mv hal hh, h.2.2.1.mv hal hh, h.2.2.2.1.mv hal hh, h.2.2.2.2⟩
end StrChars
namespace StrChars.Road
open Jvm Sem ClassFile Op Lib Jvm.Stand Jvm.Free Jvm.Free.XT
open Jvm.Lib.Cold (StaticIs)
theorem consq {a : Array Value} {s : State} {c : Jvm.Cond} {L : List Jvm.Cond} (h0 : c.before a s = true) (h : ∀ w ∈ L, w.before a s = true) : ∀ w ∈ c :: L, w.before a s = true := fun w hw => (List.mem_cons.mp hw).elim (fun e => e ▸ h0) (h w)
/-- the bytes of the chars cs, low before high -/
def wideBytes : List Int32 → List Value
  | [] => []
  | c :: cs => .int (lo8 c) :: .int (hi8 c) :: wideBytes cs
theorem wide_lo (d : Value) : ∀ (cs : List Int32) (j : Nat), j < cs.length → (wideBytes cs).getD (2 * j) d = .int (lo8 (cs.getD j 0))
  | [], j, h => absurd h (Nat.not_lt_zero j)
  | c :: cs, 0, _ => rfl
  | c :: cs, j + 1, h => by
    have q := wide_lo d cs j (by simpa using h)
    rw [show 2 * (j + 1) = 2 * j + 1 + 1 from by omega]
    simpa [wideBytes] using q
theorem wide_hi (d : Value) : ∀ (cs : List Int32) (j : Nat), j < cs.length → (wideBytes cs).getD (2 * j + 1) d = .int (hi8 (cs.getD j 0))
  | [], j, h => absurd h (Nat.not_lt_zero j)
  | c :: cs, 0, _ => rfl
  | c :: cs, j + 1, h => by
    have q := wide_hi d cs j (by simpa using h)
    rw [show 2 * (j + 1) + 1 = 2 * j + 1 + 1 + 1 from by omega]
    simpa [wideBytes] using q
theorem low_at (d : Value) (cs : List Int32) (j : Nat) (h : j < cs.length) : (cs.map fun c => Value.int (lo8 c)).getD j d = .int (lo8 (cs.getD j 0)) := by
  simp [List.getD_eq_getElem?_getD, h]
/-- an array of N2 bytes vs codes the chars cs by the coder cd -/
def CodA (cs : List Int32) (cd N2 : Int32) (vs : List Value) : Prop := (cd = 0 ∧ N2 = Int32.ofNat cs.length ∧ vs = (cs.map fun c => Value.int (lo8 c)) ∧ ∀ c ∈ cs, ¬ 255 < c) ∨ (cd = 1 ∧ N2 = Int32.ofNat (2 * cs.length) ∧ vs = wideBytes cs ∧ ∃ c ∈ cs, 255 < c)
theorem CodA.cod {cs : List Int32} {cd N2 : Int32} {vs : List Value} {V : Cell} (h : CodA cs cd N2 vs) (hn : 2 * cs.length < 2 ^ 31) (hs : V.slots.size = N2.toNatClampNeg) (hv : RoadKit.Has V vs (.int 0)) : Cod cd cs.length (fun j => cs.getD j 0) V := by
  rcases h with ⟨rfl, rfl, rfl, h⟩ | ⟨rfl, rfl, rfl, c, hc, hw⟩
  · rw [n32 (by omega)] at hs
    exact Or.inl ⟨rfl, hs, fun j hj => ⟨by rw [hv j (by omega), low_at _ _ _ hj], by
      have e : cs.getD j 0 = cs[j] := by simp [List.getD_eq_getElem?_getD, hj]
      show ¬ 255 < cs.getD j 0
      rw [e]; exact h _ (List.getElem_mem _)⟩⟩
  · rw [n32 (by omega)] at hs
    obtain ⟨j, hj, rfl⟩ := List.getElem_of_mem hc
    exact Or.inr ⟨rfl, hs, fun j hj => ⟨by rw [hv _ (by omega), wide_lo _ _ _ hj], by rw [hv _ (by omega), wide_hi _ _ _ hj]⟩, j, hj, by
      have e : cs.getD j 0 = cs[j] := by simp [List.getD_eq_getElem?_getD, hj]
      show 255 < cs.getD j 0
      rw [e]; exact hw⟩
/-- an object of exactly java/lang/String, its two fields found: as the laws ask it -/
theorem strObj {Z U : State} {a0 : Array Value} {kI : Nat} (wi : (Jvm.Cond.instantiable ST kI).before a0 Z = true) (al : Z.vm.Alike U.vm) {x : Addr} {v0 c0 : Value} (E : RoadKit.Exa Z U.heap x ST) (V : RoadKit.Fld Z U.heap x ST "value" "[B" v0) (C : RoadKit.Fld Z U.heap x ST "coder" "B" c0) :
    ∃ (D : Cell) (fV fC : Field), Blank ST x D U ∧ Found ST "value" "[B" fV U ∧ Found ST "coder" "B" fC U ∧ D.slots[fV.slot]? = some v0 ∧ D.slots[fC.slot]? = some c0 ∧ RoadKit.slotOf Z ST "value" "[B" = fV.slot ∧ RoadKit.slotOf Z ST "coder" "B" = fC.slot := by
  obtain ⟨D, cfV, kV, iV, fV, hD, gV, stV, knV, obV, asV, slV⟩ := V
  obtain ⟨D', cfC, kC, iC, fC, hD', gC, stC, -, -, asC, slC⟩ := C
  cases hD.symm.trans hD'
  obtain ⟨D2, kD, e1, e2, e3, e4, e5⟩ := E
  cases hD.symm.trans e1
  obtain ⟨c2, k2, i1, i2, i3, -⟩ := Cond.instantiable_spec wi
  cases e2.symm.trans i1
  cases e3.symm.trans i2
  obtain ⟨kU, u1, u2⟩ := al.2.2 _ _ e3
  exact ⟨D, fV, fC, ⟨hD, ⟨knV, fun q hq => by rw [hq] at obV; cases obV⟩, by rw [al.findClass]; exact e2, kU, u1, by rw [u2]; exact i3, by rw [u2]; exact e5 i3⟩, ⟨SBG.found_only al ⟨cfV, kV, iV, gV⟩, stV⟩, ⟨SBG.found_only al ⟨cfC, kC, iC, gC⟩, stC⟩, slV, slC, by simp [RoadKit.slotOf, gV], by simp [RoadKit.slotOf, gC]⟩
theorem sta_is {Z U : State} (al : Z.vm.Alike U.vm) {C n d : String} {v : Value} (S : RoadKit.Sta Z U.heap C n d v) : StaticIs U C n d v := by
  obtain ⟨cfS, iS, kS, fS, st, cS, t1, t2, t3, t4, t5, t6, t7⟩ := S
  exact StaticIs.there (s := { Z with heap := U.heap }) ⟨cfS, iS, kS, fS, st, cS, t1, t2, t3, t4, t5, (fun q => by rw [q] at t6; cases t6), t7⟩ al rfl
end StrChars.Road
namespace StrChars
open Jvm Sem ClassFile Op Lib Jvm.Stand Jvm.Free.XT Jvm.Free.ALB Jvm.Free.JM Jvm.Free
open Jvm.Lib.Cold (StaticIs)
/-- what place i of a byte[]'s cell holds -/
def yv (A : Cell) (i : Nat) : Int32 := match A.slots[i]? with | some (.int x) => x | _ => 0
theorem yv_get {a : Addr} {A : Cell} {U : State} (h : XT.Arr .byte a A U) (ht : Typed .byte A) {i : Nat} (hi : i < A.slots.size) : A.slots[i]? = some (.int (yv A i)) := by
  have e := Array.getElem?_eq_getElem hi
  have f := ht i _ e
  unfold yv; rw [e]
  generalize A.slots[i] = v at f
  cases v <;> simp [fits] at f ⊢
/-- the two arrays are equal, place for place -/
def EqC (A B : Cell) : Prop := A.slots.size = B.slots.size ∧ ∀ i, i < A.slots.size → yv A i = yv B i
/-- a boolean that says whether p -/
def Says01 (q : Prop) (r : Option Value) (s u : State) : Prop := ∃ v : Int32, r = some (.int v) ∧ u.heap = s.heap ∧ ((v = 1 ∧ q) ∨ (v = 0 ∧ ¬ q))
theorem Says01.mv {q : Prop} : ∀ r (U U' V V' : State), U'.heap = U.heap → V.vm.Alike V'.vm → V'.heap = V.heap → Says01 q r U V → Says01 q r U' V' :=
  fun r U U' V V' h1 _ h2 ⟨v, a, b, c⟩ => ⟨v, a, by rw [h1, h2]; exact b, c⟩
namespace LEq
def yN : MethodName := ⟨"java/lang/StringLatin1", "equals", "([B[B)Z"⟩
abbrev yB : ByteArray := jdk_43_method_13_code
theorem d0 : decode yB 0 = .ok (.aload_n 0, 1) := by decide +kernel
theorem d1 : decode yB 1 = .ok (.arraylength, 1) := by decide +kernel
theorem d2 : decode yB 2 = .ok (.aload_n 1, 1) := by decide +kernel
theorem d3 : decode yB 3 = .ok (.arraylength, 1) := by decide +kernel
theorem d4 : decode yB 4 = .ok (.if_icmp (.ne) 30, 3) := by decide +kernel
theorem d7 : decode yB 7 = .ok (.iconst 0, 1) := by decide +kernel
theorem d8 : decode yB 8 = .ok (.istore_n 2, 1) := by decide +kernel
theorem d9 : decode yB 9 = .ok (.iload_n 2, 1) := by decide +kernel
theorem d10 : decode yB 10 = .ok (.aload_n 0, 1) := by decide +kernel
theorem d11 : decode yB 11 = .ok (.arraylength, 1) := by decide +kernel
theorem d12 : decode yB 12 = .ok (.if_icmp (.ge) 20, 3) := by decide +kernel
theorem d15 : decode yB 15 = .ok (.aload_n 0, 1) := by decide +kernel
theorem d16 : decode yB 16 = .ok (.iload_n 2, 1) := by decide +kernel
theorem d17 : decode yB 17 = .ok (.baload, 1) := by decide +kernel
theorem d18 : decode yB 18 = .ok (.aload_n 1, 1) := by decide +kernel
theorem d19 : decode yB 19 = .ok (.iload_n 2, 1) := by decide +kernel
theorem d20 : decode yB 20 = .ok (.baload, 1) := by decide +kernel
theorem d21 : decode yB 21 = .ok (.if_icmp (.eq) 5, 3) := by decide +kernel
theorem d24 : decode yB 24 = .ok (.iconst 0, 1) := by decide +kernel
theorem d25 : decode yB 25 = .ok (.ireturn, 1) := by decide +kernel
theorem d26 : decode yB 26 = .ok (.iinc 2 1, 3) := by decide +kernel
theorem d29 : decode yB 29 = .ok (.goto (-20), 3) := by decide +kernel
theorem d32 : decode yB 32 = .ok (.iconst 1, 1) := by decide +kernel
theorem d33 : decode yB 33 = .ok (.ireturn, 1) := by decide +kernel
theorem d34 : decode yB 34 = .ok (.iconst 0, 1) := by decide +kernel
theorem d35 : decode yB 35 = .ok (.ireturn, 1) := by decide +kernel
def site : List Cond := []
def tab : Cond := tabOf yN yB 3 (some .boolean) site
def P (a : Addr) (A : Cell) (b : Addr) (B : Cell) (args : Array Value) (s : State) : Prop := args = #[.ref a, .ref b] ∧ XT.Arr .byte a A s ∧ Typed .byte A ∧ XT.Arr .byte b B s ∧ Typed .byte B
/-- whether two byte[] are equal, place for place -/
theorem law (l : Launch) (a : Addr) (A : Cell) (b : Addr) (B : Cell) : Law l yN 2 2 0 0 yB 3 (some .boolean) site (P a A b B) (Says01 (EqC A B)) [] 0 0 := by
  refine Law.of_walk (plainFor_of_name (by decide +kernel)) (by decide +kernel) (by decide +kernel) (by decide) (fun _ _ h => by rw [h.1]; rfl) (fun _ U U' hal hh h => ⟨h.1, h.2.1.mv hal hh, h.2.2.1, h.2.2.2.1.mv hal hh, h.2.2.2.2⟩) (fun r U U' V V' h1 hal h2 h => Says01.mv r U U' V V' h1 hal h2 h) ?_
  intro p e s m args below meth c s₁ X0 hexec hbytes hml hret hlk hnm hown hh0 W hP
  obtain ⟨rfl, hA, tA, hB, tB⟩ := hP
  have a31 := hA.2.2.2
  have b31 := hB.2.2.2
  have hA0 := hA.mv X0.warmed.alike hh0
  have hB0 := hB.mv X0.warmed.alike hh0
  have c1 : Steps p.tables e below (s₁.setTop (entryFrame m #[.ref a, .ref b] 3)) (s₁.setTop (mkF m 0 #[.val (.ref a), .val (.ref b), .unset] [])) := entry rfl
  have c2 : Steps p.tables e below (s₁.setTop (entryFrame m #[.ref a, .ref b] 3)) (s₁.setTop (mkF m 4 #[.val (.ref a), .val (.ref b), .unset] [.int (Int32.ofNat B.slots.size), .int (Int32.ofNat A.slots.size)])) := c1.trans (by
    refine XS.aloadN X0.here hexec rfl (hb hbytes d0) rfl rfl ?_
    refine X0.alen hexec hA0 rfl rfl (hb hbytes d1) ?_
    refine XS.aloadN X0.here hexec rfl (hb hbytes d2) rfl rfl ?_
    refine X0.alen hexec hB0 rfl rfl (hb hbytes d3) ?_
    exact Steps.refl _)
  by_cases hs : A.slots.size = B.slots.size
  · have c3 : Steps p.tables e below (s₁.setTop (entryFrame m #[.ref a, .ref b] 3)) (s₁.setTop (mkF m 9 #[.val (.ref a), .val (.ref b), .val (.int 0)] [])) := c2.trans (by
      refine XS.icmpNo X0.here hexec rfl (hb hbytes d4) rfl (ii_ne_f (by rw [hs])) ?_
      refine iconstV X0.here hexec rfl 0 (hb hbytes d7) (by decide) ?_
      refine XS.istoreN X0.here hexec rfl (hb hbytes d8) rfl rfl ?_
      exact Steps.refl _)
    have loop : ∀ (r i : Nat), i + r = A.slots.size → (∀ j, j < i → yv A j = yv B j) → Steps p.tables e below (s₁.setTop (entryFrame m #[.ref a, .ref b] 3)) (s₁.setTop (mkF m 9 #[.val (.ref a), .val (.ref b), .val (.int (Int32.ofNat i))] [])) → ∃ (pc : Nat) (Ls : Array Slot) (v : Int32), (pc = 25 ∨ pc = 33) ∧ ((v = 1 ∧ EqC A B) ∨ (v = 0 ∧ ¬ EqC A B)) ∧ Steps p.tables e below (s₁.setTop (entryFrame m #[.ref a, .ref b] 3)) (s₁.setTop (mkF m pc Ls [.int v])) := by
      intro r
      induction r with
      | zero =>
        intro i hi he cl
        exact ⟨33, _, 1, Or.inr rfl, Or.inl ⟨rfl, hs, fun j hj => he j (by omega)⟩, cl.trans (by
          refine XS.iloadN X0.here hexec rfl (hb hbytes d9) rfl ?_
          refine XS.aloadN X0.here hexec rfl (hb hbytes d10) rfl rfl ?_
          refine X0.alen hexec hA0 rfl rfl (hb hbytes d11) ?_
          refine XS.icmpYes X0.here hexec rfl (pc0 := 12) rfl (hb hbytes d12) rfl (ii_ge_t (nlt32 (by omega) (by omega))) (by decide) rfl ?_
          refine iconstV X0.here hexec rfl 1 (hb hbytes d32) (by decide) ?_
          exact Steps.refl _)⟩
      | succ r ih =>
        intro i hi he cl
        have c4 : Steps p.tables e below (s₁.setTop (entryFrame m #[.ref a, .ref b] 3)) (s₁.setTop (mkF m 21 #[.val (.ref a), .val (.ref b), .val (.int (Int32.ofNat i))] [.int (yv B i), .int (yv A i)])) := cl.trans (by
          refine XS.iloadN X0.here hexec rfl (hb hbytes d9) rfl ?_
          refine XS.aloadN X0.here hexec rfl (hb hbytes d10) rfl rfl ?_
          refine X0.alen hexec hA0 rfl rfl (hb hbytes d11) ?_
          refine XS.icmpNo X0.here hexec rfl (hb hbytes d12) rfl (ii_ge_f (lt32 (by omega) (by omega))) ?_
          refine XS.aloadN X0.here hexec rfl (hb hbytes d15) rfl rfl ?_
          refine XS.iloadN X0.here hexec rfl (hb hbytes d16) rfl ?_
          refine X0.aget hexec hA0 rfl (yv_get hA tA (i := i) (by omega)) rfl rfl (hb hbytes d17) ?_
          refine XS.aloadN X0.here hexec rfl (hb hbytes d18) rfl rfl ?_
          refine XS.iloadN X0.here hexec rfl (hb hbytes d19) rfl ?_
          refine X0.aget hexec hB0 rfl (yv_get hB tB (i := i) (by omega)) rfl rfl (hb hbytes d20) ?_
          exact Steps.refl _)
        by_cases hv : yv A i = yv B i
        · have c5 : Steps p.tables e below (s₁.setTop (entryFrame m #[.ref a, .ref b] 3)) (s₁.setTop (mkF m 9 #[.val (.ref a), .val (.ref b), .val (.int (Int32.ofNat i + 1))] [])) := c4.trans (by
            refine XS.icmpYes X0.here hexec rfl (pc0 := 21) rfl (hb hbytes d21) rfl (ii_eq_t hv) (by decide) rfl ?_
            refine iincV X0.here hexec rfl 1 (hb hbytes d26) (by decide) rfl rfl ?_
            refine XS.goto X0.here hexec rfl (pc0 := 29) rfl (hb hbytes d29) (by decide) rfl ?_
            exact Steps.refl _)
          rw [succ32] at c5
          exact ih (i + 1) (by omega) (fun j hj => by
            by_cases e : j = i
            · rw [e]; exact hv
            · exact he j (by omega)) c5
        · exact ⟨25, _, 0, Or.inl rfl, Or.inr ⟨rfl, fun q => hv (q.2 i (by omega))⟩, c4.trans (by
            refine XS.icmpNo X0.here hexec rfl (hb hbytes d21) rfl (ii_eq_f hv) ?_
            refine iconstV X0.here hexec rfl 0 (hb hbytes d24) (by decide) ?_
            exact Steps.refl _)⟩
    obtain ⟨pc, Ls, v, hpc, hv, cz⟩ := loop A.slots.size 0 (by omega) (fun j hj => absurd hj (Nat.not_lt_zero j)) c3
    have nv : narrow .boolean (.int v) = .int v := by rcases hv with ⟨rfl, -⟩ | ⟨rfl, -⟩ <;> rfl
    rcases hpc with rfl | rfl
    · exact ⟨s₁, some (.int v), _, _, _, X0, rfl, rfl, rfl, (fun h => by cases h), ⟨v, rfl, hh0, hv⟩, fun fs hl => cz.trans (X0.ireturnOut hexec hret nv (Or.inr (Or.inl rfl)) (hb hbytes d25) hl)⟩
    · exact ⟨s₁, some (.int v), _, _, _, X0, rfl, rfl, rfl, (fun h => by cases h), ⟨v, rfl, hh0, hv⟩, fun fs hl => cz.trans (X0.ireturnOut hexec hret nv (Or.inr (Or.inl rfl)) (hb hbytes d33) hl)⟩
  · have c3 : Steps p.tables e below (s₁.setTop (entryFrame m #[.ref a, .ref b] 3)) (s₁.setTop (mkF m 35 #[.val (.ref a), .val (.ref b), .unset] [.int 0])) := c2.trans (by
      refine XS.icmpYes X0.here hexec rfl (pc0 := 4) rfl (hb hbytes d4) rfl (ii_ne_t (ne32 a31 b31 hs)) (by decide) rfl ?_
      refine iconstV X0.here hexec rfl 0 (hb hbytes d34) (by decide) ?_
      exact Steps.refl _)
    exact ⟨s₁, some (.int 0), _, _, _, X0, rfl, rfl, rfl, (fun h => by cases h), ⟨0, rfl, hh0, Or.inr ⟨rfl, fun q => hs q.1⟩⟩, fun fs hl => c3.trans (X0.ireturnOut hexec hret rfl (Or.inr (Or.inl rfl)) (hb hbytes d35) hl)⟩
end LEq
theorem Cod.ty {cd : Int32} {n : Nat} {f : Nat → Int32} {V : Cell} (h : Cod cd n f V) : Typed .byte V := fun i v hv => by
  have hi : i < V.slots.size := (Array.getElem?_eq_some_iff.mp hv).1
  rcases h with ⟨-, k1, k2⟩ | ⟨-, k1, k2, -⟩
  · rw [(k2 i (by omega)).1] at hv; cases hv; exact fits_lo8 _
  · rcases Nat.mod_two_eq_zero_or_one i with e | e
    · obtain ⟨j, rfl⟩ : ∃ j, i = 2 * j := ⟨i / 2, by omega⟩
      rw [(k2 j (by omega)).1] at hv; cases hv; exact fits_lo8 _
    · obtain ⟨j, rfl⟩ : ∃ j, i = 2 * j + 1 := ⟨i / 2, by omega⟩
      rw [(k2 j (by omega)).2] at hv; cases hv; exact fits_lo8 _
/-- the same text -/
def SameT (n : Nat) (f : Nat → Int32) (k : Nat) (g : Nat → Int32) : Prop := n = k ∧ ∀ j, j < n → f j = g j
theorem lo8_inj {x y : Int32} (h0 : ¬ x < 0) (h1 : ¬ 255 < x) (k0 : ¬ y < 0) (k1 : ¬ 255 < y) (h : lo8 x = lo8 y) : x = y := by
  rw [← lo8_mask h0 h1, ← lo8_mask k0 k1, h]
/-- arrays coded by one coder are equal just where the texts are -/
theorem Cod.eqv {cd : Int32} {n k : Nat} {f g : Nat → Int32} {V V' : Cell} (h : Cod cd n f V) (h' : Cod cd k g V') (hf : ∀ j, j < n → ¬ f j < 0 ∧ ¬ 65535 < f j) (hg : ∀ j, j < k → ¬ g j < 0 ∧ ¬ 65535 < g j) : EqC V V' ↔ SameT n f k g := by
  have yvv : ∀ {W : Cell} {i : Nat} {x : Int32}, W.slots[i]? = some (.int x) → yv W i = x := fun q => by unfold yv; rw [q]
  rcases h with ⟨rfl, k1, k2⟩ | ⟨rfl, k1, k2, -⟩
  · rcases h' with ⟨-, m1, m2⟩ | ⟨e, -⟩
    · constructor
      · rintro ⟨e1, e2⟩
        refine ⟨by omega, fun j hj => ?_⟩
        have q := e2 j (by omega)
        rw [yvv (k2 j hj).1, yvv (m2 j (by omega)).1] at q
        exact lo8_inj (hf j hj).1 (k2 j hj).2 (hg j (by omega)).1 (m2 j (by omega)).2 q
      · rintro ⟨rfl, e2⟩
        refine ⟨by omega, fun j hj => ?_⟩
        rw [yvv (k2 j (by omega)).1, yvv (m2 j (by omega)).1, e2 j (by omega)]
    · exact absurd e (by decide)
  · rcases h' with ⟨e, -⟩ | ⟨-, m1, m2, -⟩
    · exact absurd e (by decide)
    · constructor
      · rintro ⟨e1, e2⟩
        refine ⟨by omega, fun j hj => ?_⟩
        have q1 := e2 (2 * j) (by omega)
        have q2 := e2 (2 * j + 1) (by omega)
        rw [yvv (k2 j hj).1, yvv (m2 j (by omega)).1] at q1
        rw [yvv (k2 j hj).2, yvv (m2 j (by omega)).2] at q2
        rw [← pair_says (hf j hj).1 (hf j hj).2, ← pair_says (hg j (by omega)).1 (hg j (by omega)).2, q1, q2]
      · rintro ⟨rfl, e2⟩
        refine ⟨by omega, fun i hi => ?_⟩
        rcases Nat.mod_two_eq_zero_or_one i with e | e
        · obtain ⟨j, rfl⟩ : ∃ j, i = 2 * j := ⟨i / 2, by omega⟩
          rw [yvv (k2 j (by omega)).1, yvv (m2 j (by omega)).1, e2 j (by omega)]
        · obtain ⟨j, rfl⟩ : ∃ j, i = 2 * j + 1 := ⟨i / 2, by omega⟩
          rw [yvv (k2 j (by omega)).2, yvv (m2 j (by omega)).2, e2 j (by omega)]
/-- two codings differ: so do the texts -/
theorem Cod.dif {cd cd' : Int32} {n k : Nat} {f g : Nat → Int32} {V V' : Cell} (h : Cod cd n f V) (h' : Cod cd' k g V') (hne : ¬ cd = cd') : ¬ SameT n f k g := by
  rintro ⟨rfl, e⟩
  rcases h with ⟨rfl, -, k2⟩ | ⟨rfl, -, -, j, hj, hw⟩
  · rcases h' with ⟨rfl, -⟩ | ⟨-, -, -, j, hj, hw⟩
    · exact hne rfl
    · exact (k2 j hj).2 (by rw [e j hj]; exact hw)
  · rcases h' with ⟨-, -, m2⟩ | ⟨rfl, -⟩
    · exact (m2 j hj).2 (by rw [← e j hj]; exact hw)
    · exact hne rfl
/-- an object of exactly C is an instance of C -/
theorem cinst {p : Program} {l : Launch} {e : Env} {R : Room} {s : State} {m : MethodId} {args : Array Value} {below : List Frame} {meth : Method} {c : Code} {T : State} {locs : List Loc} {cells slots : Nat} (X : Stand p l e R s m args below meth c T locs cells slots) (hexec : p.tables.exec = Jvm.exec) {own C : String} {index : Nat} (hown : s.vm.findClass own = some m.cls) (hlink : (Cond.classLink own index C).before args s = true) {a : Addr} (hE : Exact C a T)
    {g : JFrame} (hg : g.method = m) {rest : List Value} (hstack : g.stack = .ref a :: rest) (hdg : decode c.code g.pc = .ok (.instanceof index, 3)) :
    ∃ T', Stand p l e R s m args below meth c T' locs cells slots ∧ T'.heap = T.heap ∧ ∀ target, Steps p.tables e below (T'.setTop { g with pc := g.pc + 3, stack := .int 1 :: rest }) target → Steps p.tables e below (T.setTop g) target := by
  obtain ⟨cB, h1, D, h2, h3, h4⟩ := hE
  have h1' : s.vm.findClass C = some cB := by rw [← X.warmed.alike.findClass]; exact h1
  obtain ⟨vm', X', st⟩ := X.instanceofYes hexec hown hlink h2 h4 h1' (by rw [h3]; exact Jvm.Free.SB.assignable_self _ _) hg hstack hdg
  exact ⟨_, X', rfl, st⟩
theorem cself {p : Program} {l : Launch} {e : Env} {R : Room} {s : State} {m : MethodId} {args : Array Value} {below : List Frame} {meth : Method} {c : Code} {T : State} {locs : List Loc} {cells slots : Nat} (X : Stand p l e R s m args below meth c T locs cells slots) (hexec : p.tables.exec = Jvm.exec) {own C : String} {index : Nat} (hown : s.vm.findClass own = some m.cls) (hlink : (Cond.classLink own index C).before args s = true) {a : Addr} (hE : Exact C a T)
    {g : JFrame} (hg : g.method = m) {rest : List Value} (hstack : g.stack = .ref a :: rest) (hdg : decode c.code g.pc = .ok (.checkcast index, 3)) :
    ∃ T', Stand p l e R s m args below meth c T' locs cells slots ∧ T'.heap = T.heap ∧ ∀ target, Steps p.tables e below (T'.setTop { g with pc := g.pc + 3, stack := .ref a :: rest }) target → Steps p.tables e below (T.setTop g) target := by
  obtain ⟨cB, h1, D, h2, h3, h4⟩ := hE
  have h1' : s.vm.findClass C = some cB := by rw [← X.warmed.alike.findClass]; exact h1
  obtain ⟨vm', X', st⟩ := X.checkcastYes hexec hown hlink h2 h4 h1' (by rw [h3]; exact Jvm.Free.SB.assignable_self _ _) hg hstack hdg
  exact ⟨_, X', rfl, fun t h => st t (by rw [← hstack] at h; exact h)⟩
namespace SEq
def yN : MethodName := ⟨"java/lang/String", "equals", "(Ljava/lang/Object;)Z"⟩
abbrev yB : ByteArray := jdk_42_method_66_code
theorem d0 : decode yB 0 = .ok (.aload_n 0, 1) := by decide +kernel
theorem d1 : decode yB 1 = .ok (.aload_n 1, 1) := by decide +kernel
theorem d2 : decode yB 2 = .ok (.if_acmp (.ne) 5, 3) := by decide +kernel
theorem d5 : decode yB 5 = .ok (.iconst 1, 1) := by decide +kernel
theorem d6 : decode yB 6 = .ok (.ireturn, 1) := by decide +kernel
theorem d7 : decode yB 7 = .ok (.aload_n 1, 1) := by decide +kernel
theorem d8 : decode yB 8 = .ok (.instanceof 10, 3) := by decide +kernel
theorem d11 : decode yB 11 = .ok (.ifCond (.eq) 43, 3) := by decide +kernel
theorem d14 : decode yB 14 = .ok (.aload_n 1, 1) := by decide +kernel
theorem d15 : decode yB 15 = .ok (.checkcast 10, 3) := by decide +kernel
theorem d18 : decode yB 18 = .ok (.astore_n 2, 1) := by decide +kernel
theorem d19 : decode yB 19 = .ok (.getstatic 38, 3) := by decide +kernel
theorem d22 : decode yB 22 = .ok (.ifCond (.eq) 14, 3) := by decide +kernel
theorem d25 : decode yB 25 = .ok (.aload_n 0, 1) := by decide +kernel
theorem d26 : decode yB 26 = .ok (.getfield 15, 3) := by decide +kernel
theorem d29 : decode yB 29 = .ok (.aload_n 2, 1) := by decide +kernel
theorem d30 : decode yB 30 = .ok (.getfield 15, 3) := by decide +kernel
theorem d33 : decode yB 33 = .ok (.if_icmp (.ne) 21, 3) := by decide +kernel
theorem d36 : decode yB 36 = .ok (.aload_n 0, 1) := by decide +kernel
theorem d37 : decode yB 37 = .ok (.getfield 9, 3) := by decide +kernel
theorem d40 : decode yB 40 = .ok (.aload_n 2, 1) := by decide +kernel
theorem d41 : decode yB 41 = .ok (.getfield 9, 3) := by decide +kernel
theorem d44 : decode yB 44 = .ok (.invokestatic 541, 3) := by decide +kernel
theorem d47 : decode yB 47 = .ok (.ifCond (.eq) 7, 3) := by decide +kernel
theorem d50 : decode yB 50 = .ok (.iconst 1, 1) := by decide +kernel
theorem d51 : decode yB 51 = .ok (.goto 4, 3) := by decide +kernel
theorem d54 : decode yB 54 = .ok (.iconst 0, 1) := by decide +kernel
theorem d55 : decode yB 55 = .ok (.ireturn, 1) := by decide +kernel
def site : List Cond := [.classLink "java/lang/String" 10 "java/lang/String", .fieldLink "java/lang/String" 38 "java/lang/String" "COMPACT_STRINGS" "Z", .fieldLink "java/lang/String" 15 "java/lang/String" "coder" "B", .fieldLink "java/lang/String" 9 "java/lang/String" "value" "[B", LEq.tab] ++ staticW "java/lang/String" 541 LEq.yN
def tab : Cond := tabOf yN yB 3 (some .boolean) site
def P (x t : Addr) (V : Cell) (cd : Int32) (n : Nat) (f : Nat → Int32) (y t' : Addr) (V' : Cell) (cd' : Int32) (k : Nat) (g : Nat → Int32) (z : Int32) (args : Array Value) (s : State) : Prop := args = #[.ref x, .ref y] ∧ Txt x t V cd n f s ∧ Txt y t' V' cd' k g s ∧ StaticIs s "java/lang/String" "COMPACT_STRINGS" "Z" (.int z) ∧ ¬ z = 0
/-- equals(Object) of two Strings: whether the texts are the same -/
theorem law (l : Launch) (x t : Addr) (V : Cell) (cd : Int32) (n : Nat) (f : Nat → Int32) (y t' : Addr) (V' : Cell) (cd' : Int32) (k : Nat) (g : Nat → Int32) (z : Int32) : Law l yN 2 1 1 14 yB 3 (some .boolean) site (P x t V cd n f y t' V' cd' k g z) (Says01 (SameT n f k g)) [] 0 0 := by
  refine Law.of_walk (plainFor_of_name (by decide +kernel)) (by decide +kernel) (by decide +kernel) (by decide) (fun _ _ h => by rw [h.1]; rfl) (fun _ U U' hal hh h => ⟨h.1, h.2.1.mv hal hh, h.2.2.1.mv hal hh, h.2.2.2.1.there hal hh, h.2.2.2.2⟩) (fun r U U' V V' h1 hal h2 h => Says01.mv r U U' V V' h1 hal h2 h) ?_
  intro p e s m args below meth c s₁ X0 hexec hbytes hml hret hlk hnm hown hh0 W hP
  obtain ⟨rfl, hx, hy, s1, hz⟩ := hP
  have c1 : Steps p.tables e below (s₁.setTop (entryFrame m #[.ref x, .ref y] 3)) (s₁.setTop (mkF m 2 #[.val (.ref x), .val (.ref y), .unset] [.ref y, .ref x])) := Steps.trans (entry rfl) (by
    show Steps p.tables e below (s₁.setTop (mkF m 0 #[.val (.ref x), .val (.ref y), .unset] [])) _
    refine XS.aloadN X0.here hexec rfl (hb hbytes d0) rfl rfl ?_
    refine XS.aloadN X0.here hexec rfl (hb hbytes d1) rfl rfl ?_
    exact Steps.refl _)
  by_cases hxy : x = y
  · have c2 : Steps p.tables e below (s₁.setTop (entryFrame m #[.ref x, .ref y] 3)) (s₁.setTop (mkF m 6 #[.val (.ref x), .val (.ref y), .unset] [.int 1])) := c1.trans (by
      refine acmpNo X0.here hexec rfl (hb hbytes d2) rfl rfl rfl (by simp [acmp, hxy]) ?_
      refine iconstV X0.here hexec rfl 1 (hb hbytes d5) (by decide) ?_
      exact Steps.refl _)
    subst hxy
    have ec : cd = cd' := by
      obtain ⟨D, fd, a1, a2, a3⟩ := hx.2.2.1
      obtain ⟨D', fd', b1, b2, b3⟩ := hy.2.2.1
      cases a1.symm.trans b1
      obtain ⟨q1, q2, q3, q4⟩ := a2.1
      obtain ⟨r1, r2, r3, r4⟩ := b2.1
      cases q4.symm.trans r4
      cases a3.symm.trans b3; rfl
    have et : t = t' := by
      obtain ⟨D, fd, a1, a2, a3⟩ := hx.2.1
      obtain ⟨D', fd', b1, b2, b3⟩ := hy.2.1
      cases a1.symm.trans b1
      obtain ⟨q1, q2, q3, q4⟩ := a2.1
      obtain ⟨r1, r2, r3, r4⟩ := b2.1
      cases q4.symm.trans r4
      cases a3.symm.trans b3; rfl
    subst ec et
    have ev : V = V' := by cases hx.2.2.2.1.1.symm.trans hy.2.2.2.1.1; rfl
    subst ev
    have hs : SameT n f k g := (Cod.eqv hx.2.2.2.2.1 hy.2.2.2.2.1 hx.2.2.2.2.2 hy.2.2.2.2.2).mp ⟨rfl, fun _ _ => rfl⟩
    exact ⟨s₁, some (.int 1), _, _, _, X0, rfl, rfl, rfl, (fun h => by cases h), ⟨1, rfl, hh0, Or.inl ⟨rfl, hs⟩⟩, fun fs hl => c2.trans (X0.ireturnOut hexec hret rfl (Or.inr (Or.inl rfl)) (hb hbytes d6) hl)⟩
  · have c2 : Steps p.tables e below (s₁.setTop (entryFrame m #[.ref x, .ref y] 3)) (s₁.setTop (mkF m 8 #[.val (.ref x), .val (.ref y), .unset] [.ref y])) := c1.trans (by
      refine acmpYes X0.here hexec rfl (pc0 := 2) rfl (hb hbytes d2) rfl rfl rfl (by simp [acmp, hxy]) (by decide) rfl ?_
      refine XS.aloadN X0.here hexec rfl (hb hbytes d7) rfl rfl ?_
      exact Steps.refl _)
    obtain ⟨T3, X3, q3, st3⟩ := cinst X0 hexec hown (wk W (.classLink "java/lang/String" 10 "java/lang/String")) (hy.mv X0.warmed.alike hh0).1 (g := (mkF m 8 #[.val (.ref x), .val (.ref y), .unset] [.ref y])) rfl (rest := []) rfl (hb hbytes d8)
    have hh3 := q3.trans hh0
    have c4 : Steps p.tables e below (s₁.setTop (entryFrame m #[.ref x, .ref y] 3)) (T3.setTop (mkF m 15 #[.val (.ref x), .val (.ref y), .unset] [.ref y])) := (c2.trans (st3 _ (Steps.refl _))).trans (by
      refine XS.ifNo X3.here hexec rfl (hb hbytes d11) rfl (i0_eq_f (by decide)) ?_
      refine XS.aloadN X3.here hexec rfl (hb hbytes d14) rfl rfl ?_
      exact Steps.refl _)
    obtain ⟨T5, X5, q5, st5⟩ := cself X3 hexec hown (wk W (.classLink "java/lang/String" 10 "java/lang/String")) (hy.mv X3.warmed.alike hh3).1 (g := (mkF m 15 #[.val (.ref x), .val (.ref y), .unset] [.ref y])) rfl (rest := []) rfl (hb hbytes d15)
    have hh5 := q5.trans hh3
    have c6 : Steps p.tables e below (s₁.setTop (entryFrame m #[.ref x, .ref y] 3)) (T5.setTop (mkF m 19 #[.val (.ref x), .val (.ref y), .val (.ref y)] [])) := (c4.trans (st5 _ (Steps.refl _))).trans (by
      refine XS.astoreN X5.here hexec rfl (hb hbytes d18) rfl rfl rfl ?_
      exact Steps.refl _)
    obtain ⟨T7, X7, q7, st7⟩ := X5.sget hexec hown (wk W (.fieldLink "java/lang/String" 38 "java/lang/String" "COMPACT_STRINGS" "Z")) s1 (fun _ _ h => by rw [hh5]; exact h) (g := (mkF m 19 #[.val (.ref x), .val (.ref y), .val (.ref y)] [])) rfl (hb hbytes d19)
    have hh7 := q7.trans hh5
    have c8 : Steps p.tables e below (s₁.setTop (entryFrame m #[.ref x, .ref y] 3)) (T7.setTop (mkF m 26 #[.val (.ref x), .val (.ref y), .val (.ref y)] [.ref x])) := (c6.trans (st7 _ (Steps.refl _))).trans (by
      refine XS.ifNo X7.here hexec rfl (hb hbytes d22) rfl (i0_eq_f hz) ?_
      refine XS.aloadN X7.here hexec rfl (hb hbytes d25) rfl rfl ?_
      exact Steps.refl _)
    obtain ⟨T9, X9, q9, st9⟩ := X7.hget hexec hown (wk W (.fieldLink "java/lang/String" 15 "java/lang/String" "coder" "B")) (hx.mv X7.warmed.alike hh7).2.2.1 (g := (mkF m 26 #[.val (.ref x), .val (.ref y), .val (.ref y)] [.ref x])) rfl (rest := []) rfl (hb hbytes d26)
    have hh9 := q9.trans hh7
    have c10 : Steps p.tables e below (s₁.setTop (entryFrame m #[.ref x, .ref y] 3)) (T9.setTop (mkF m 30 #[.val (.ref x), .val (.ref y), .val (.ref y)] [.ref y, .int cd])) := (c8.trans (st9 _ (Steps.refl _))).trans (by
      refine XS.aloadN X9.here hexec rfl (hb hbytes d29) rfl rfl ?_
      exact Steps.refl _)
    obtain ⟨T11, X11, q11, st11⟩ := X9.hget hexec hown (wk W (.fieldLink "java/lang/String" 15 "java/lang/String" "coder" "B")) (hy.mv X9.warmed.alike hh9).2.2.1 (g := (mkF m 30 #[.val (.ref x), .val (.ref y), .val (.ref y)] [.ref y, .int cd])) rfl (rest := [.int cd]) rfl (hb hbytes d30)
    have hh11 := q11.trans hh9
    have c12 : Steps p.tables e below (s₁.setTop (entryFrame m #[.ref x, .ref y] 3)) (T11.setTop (mkF m 33 #[.val (.ref x), .val (.ref y), .val (.ref y)] [.int cd', .int cd])) := c10.trans (st11 _ (Steps.refl _))
    by_cases hcd : cd = cd'
    · subst hcd
      have c13 : Steps p.tables e below (s₁.setTop (entryFrame m #[.ref x, .ref y] 3)) (T11.setTop (mkF m 37 #[.val (.ref x), .val (.ref y), .val (.ref y)] [.ref x])) := c12.trans (by
        refine XS.icmpNo X11.here hexec rfl (hb hbytes d33) rfl (ii_ne_f rfl) ?_
        refine XS.aloadN X11.here hexec rfl (hb hbytes d36) rfl rfl ?_
        exact Steps.refl _)
      obtain ⟨T14, X14, q14, st14⟩ := X11.hget hexec hown (wk W (.fieldLink "java/lang/String" 9 "java/lang/String" "value" "[B")) (hx.mv X11.warmed.alike hh11).2.1 (g := (mkF m 37 #[.val (.ref x), .val (.ref y), .val (.ref y)] [.ref x])) rfl (rest := []) rfl (hb hbytes d37)
      have hh14 := q14.trans hh11
      have c15 : Steps p.tables e below (s₁.setTop (entryFrame m #[.ref x, .ref y] 3)) (T14.setTop (mkF m 41 #[.val (.ref x), .val (.ref y), .val (.ref y)] [.ref y, .ref t])) := (c13.trans (st14 _ (Steps.refl _))).trans (by
        refine XS.aloadN X14.here hexec rfl (hb hbytes d40) rfl rfl ?_
        exact Steps.refl _)
      obtain ⟨T16, X16, q16, st16⟩ := X14.hget hexec hown (wk W (.fieldLink "java/lang/String" 9 "java/lang/String" "value" "[B")) (hy.mv X14.warmed.alike hh14).2.1 (g := (mkF m 41 #[.val (.ref x), .val (.ref y), .val (.ref y)] [.ref y, .ref t])) rfl (rest := [.ref t]) rfl (hb hbytes d41)
      have hh16 := q16.trans hh14
      have c17 : Steps p.tables e below (s₁.setTop (entryFrame m #[.ref x, .ref y] 3)) (T16.setTop (mkF m 44 #[.val (.ref x), .val (.ref y), .val (.ref y)] [.ref t', .ref t])) := c15.trans (st16 _ (Steps.refl _))
      obtain ⟨v18, T18, X18, E18, g18⟩ := X16.callS hexec (LEq.law l t V t' V') hown (wks W (staticW "java/lang/String" 541 LEq.yN)) (wk W LEq.tab) (W := 0) (Nat.le_of_ble_eq_true rfl) (Nat.le_of_ble_eq_true rfl) (Nat.le_refl _) (Nat.le_refl _) (g := (mkF m 44 #[.val (.ref x), .val (.ref y), .val (.ref y)] [.ref t', .ref t])) rfl (by rw [hml]; rfl) c17 (argsL := [.ref t, .ref t']) (rest := []) rfl rfl (by show 2 * 0 + 0 ≤ _; decide) (hb hbytes d44) (⟨rfl, hx.2.2.2.1.mv X16.warmed.alike hh16, hx.2.2.2.2.1.ty, hy.2.2.2.1.mv X16.warmed.alike hh16, hy.2.2.2.2.1.ty⟩)
      obtain ⟨v, rfl, q18, hv⟩ := E18
      have iff := Cod.eqv hx.2.2.2.2.1 hy.2.2.2.2.1 hx.2.2.2.2.2 hy.2.2.2.2.2
      rcases hv with ⟨rfl, he⟩ | ⟨rfl, he⟩
      · have c19 : Steps p.tables e below (s₁.setTop (entryFrame m #[.ref x, .ref y] 3)) (T18.setTop (mkF m 55 #[.val (.ref x), .val (.ref y), .val (.ref y)] [.int 1])) := Steps.trans g18 (by
          refine XS.ifNo X18.here hexec rfl (hb hbytes d47) rfl (i0_eq_f (by decide)) ?_
          refine iconstV X18.here hexec rfl 1 (hb hbytes d50) (by decide) ?_
          refine XS.goto X18.here hexec rfl (pc0 := 51) rfl (hb hbytes d51) (by decide) rfl ?_
          exact Steps.refl _)
        exact ⟨T18, some (.int 1), _, _, _, X18, rfl, rfl, rfl, (fun h => by cases h), ⟨1, rfl, q18.trans hh16, Or.inl ⟨rfl, iff.mp he⟩⟩, fun fs hl => c19.trans (X18.ireturnOut hexec hret rfl (Or.inr (Or.inl rfl)) (hb hbytes d55) hl)⟩
      · have c19 : Steps p.tables e below (s₁.setTop (entryFrame m #[.ref x, .ref y] 3)) (T18.setTop (mkF m 55 #[.val (.ref x), .val (.ref y), .val (.ref y)] [.int 0])) := Steps.trans g18 (by
          refine XS.ifYes X18.here hexec rfl (pc0 := 47) rfl (hb hbytes d47) rfl (i0_eq_t rfl) (by decide) rfl ?_
          refine iconstV X18.here hexec rfl 0 (hb hbytes d54) (by decide) ?_
          exact Steps.refl _)
        exact ⟨T18, some (.int 0), _, _, _, X18, rfl, rfl, rfl, (fun h => by cases h), ⟨0, rfl, q18.trans hh16, Or.inr ⟨rfl, fun q => he (iff.mpr q)⟩⟩, fun fs hl => c19.trans (X18.ireturnOut hexec hret rfl (Or.inr (Or.inl rfl)) (hb hbytes d55) hl)⟩
    · have c13 : Steps p.tables e below (s₁.setTop (entryFrame m #[.ref x, .ref y] 3)) (T11.setTop (mkF m 55 #[.val (.ref x), .val (.ref y), .val (.ref y)] [.int 0])) := c12.trans (by
        refine XS.icmpYes X11.here hexec rfl (pc0 := 33) rfl (hb hbytes d33) rfl (ii_ne_t hcd) (by decide) rfl ?_
        refine iconstV X11.here hexec rfl 0 (hb hbytes d54) (by decide) ?_
        exact Steps.refl _)
      exact ⟨T11, some (.int 0), _, _, _, X11, rfl, rfl, rfl, (fun h => by cases h), ⟨0, rfl, hh11, Or.inr ⟨rfl, Cod.dif hx.2.2.2.2.1 hy.2.2.2.2.1 hcd⟩⟩, fun fs hl => c13.trans (X11.ireturnOut hexec hret rfl (Or.inr (Or.inl rfl)) (hb hbytes d55) hl)⟩
theorem pays {l : Launch} {R : Room} {p : Program} {e : Env} {below : List Frame} {s : State} {sargs : Array Value} {len W : Nat} (x t : Addr) (V : Cell) (cd : Int32) (n : Nat) (f : Nat → Int32) (y t' : Addr) (V' : Cell) (cd' : Int32) (k : Nat) (g : Nat → Int32) (z : Int32) (htab : tab.before sargs s = true) (hfr : 2 ≤ R.frames) (hlo : W + 28 ≤ R.locals) :
    Back l R p e below s sargs yN len W (fun A₁ a₁ => A₁.cells + 0 ≤ R.cells ∧ A₁.slots + 0 ≤ R.slots ∧ P x t V cd n f y t' V' cd' k g z a₁ A₁.U) (fun A₁ _ v₁ B₁ => Says01 (SameT n f k g) v₁ A₁.U B₁.U ∧ B₁.locs = A₁.locs ++ [] ∧ B₁.cells = A₁.cells + 0 ∧ B₁.slots = A₁.slots + 0) :=
  (law l x t V cd n f y t' V' cd' k g z).pays htab hfr (by omega)
end SEq
end StrChars
namespace StrChars.Road
open Jvm Sem ClassFile Op Lib Jvm.Stand Jvm.Free Jvm.Free.XT
open Jvm.Lib.Cold (StaticIs)
/-- the words of String.equals(Object) -/
abbrev wordsEq : List Jvm.Cond := [.code SEq.yN SEq.yB 3 (some .boolean), .initialized ST, .classLink ST 10 ST, .fieldLink ST 38 ST "COMPACT_STRINGS" "Z", .fieldLink ST 15 ST "coder" "B", .fieldLink ST 9 ST "value" "[B", .methodLink ST 541 LEq.yN, .static LEq.yN, .code LEq.yN LEq.yB 3 (some .boolean), .initialized "java/lang/StringLatin1"]
theorem tabEq_of {a : Array Value} {s : State} (h : ∀ w ∈ wordsEq, w.before a s = true) : SEq.tab.before a s = true := by
  have hl : LEq.tab.before a s = true := unparts (wk h (.code LEq.yN LEq.yB 3 (some .boolean))) (wks h (.initialized LEq.yN.cls :: LEq.site))
  have q := consq hl h
  exact unparts (wk q (.code SEq.yN SEq.yB 3 (some .boolean))) (wks q (.initialized SEq.yN.cls :: SEq.site))
theorem movedEq {Z s : State} {a0 args : Array Value} (hZ : Z.Warmed39 s.vm) (hw : ∀ d ∈ wordsEq, d.before a0 Z = true) : ∀ d ∈ wordsEq, d.before args s = true := fun d hd => by
  have t : ∀ d ∈ wordsEq, (d.onTables && d.keepsFace) = true := by decide +kernel
  exact RoadKit.mv hZ (hw d hd) (t d hd)
/-- the road's facts of a String, as the laws ask it -/
theorem txt_of {Z U : State} {a0 : Array Value} {kI : Nat} (wi : (Jvm.Cond.instantiable ST kI).before a0 Z = true) (al : Z.vm.Alike U.vm) {x t : Addr} {kb : ClassId} {cs : List Int32} {cd N2 : Int32} {vs : List Value} (E : RoadKit.Exa Z U.heap x ST) (V : RoadKit.Fld Z U.heap x ST "value" "[B" (.ref t)) (C : RoadKit.Fld Z U.heap x ST "coder" "B" (.int cd)) (K : RoadKit.Arv Z U.heap t kb .byte N2 vs (.int 0)) (hc : CodA cs cd N2 vs) (hb : ∀ c ∈ cs, ¬ c < 0 ∧ ¬ (65535 : Int32) < c) (l2 : cs.length ≤ 4000) :
    ∃ A, Txt x t A cd cs.length (fun j => cs.getD j 0) U := by
  obtain ⟨A, K1, K2, K3, K4, K5, K6⟩ := K
  have hcod := hc.cod (by omega) K3 K5
  obtain ⟨D, fV, fC, hB, F1, F2, g1, g2, -, -⟩ := strObj wi al E V C
  exact ⟨A, ⟨_, hB.2.2.1, D, hB.1, rfl, by cases q : D.vm <;> first | rfl | exact absurd q (hB.2.1.2 _)⟩, Has.of hB F1 g1, Has.of hB F2 g2, ⟨K1.1, State.isArrayOf_alike al K1.2.1, K1.2.2, by rcases hcod with ⟨-, q, -⟩ | ⟨-, q, -⟩ <;> omega⟩, hcod, fun j hj => by
    have e : cs.getD j 0 = cs[j] := by simp [List.getD_eq_getElem?_getD, hj]
    show ¬ cs.getD j 0 < 0 ∧ ¬ 65535 < cs.getD j 0
    rw [e]; exact hb _ (List.getElem_mem _)⟩
theorem same_list (cs ds : List Int32) : SameT cs.length (fun j => cs.getD j 0) ds.length (fun j => ds.getD j 0) ↔ cs = ds := by
  constructor
  · rintro ⟨e, q⟩
    refine List.ext_getElem e fun j h1 h2 => ?_
    have := q j h1
    simpa [List.getD_eq_getElem?_getD, h1, h2] using this
  · rintro rfl
    exact ⟨rfl, fun _ _ => rfl⟩
/-- **equals(Object) OF TWO SUCH STRINGS**: 1 just where the chars are the same -/
theorem eqW {p : Program} {l : Launch} {e : Env} {R : Room} {s : State} {args : Array Value} {below : List Frame} {len W : Nat} {Z : State} {a0 : Array Value} {h : Heap} (hZ : Z.Warmed39 s.vm) (hw : ∀ d ∈ wordsEq, d.before a0 Z = true) {kI : Nat} (wi : (Jvm.Cond.instantiable ST kI).before a0 Z = true)
    {x t : Addr} {kb : ClassId} {cs : List Int32} {cd N2 : Int32} {vs : List Value} (E : RoadKit.Exa Z h x ST) (V : RoadKit.Fld Z h x ST "value" "[B" (.ref t)) (C : RoadKit.Fld Z h x ST "coder" "B" (.int cd)) (K : RoadKit.Arv Z h t kb .byte N2 vs (.int 0)) (hc : CodA cs cd N2 vs) (hb : ∀ c ∈ cs, ¬ c < 0 ∧ ¬ (65535 : Int32) < c) (l2 : cs.length ≤ 4000)
    {y t' : Addr} {kb' : ClassId} {ds : List Int32} {cd' N2' : Int32} {vs' : List Value} (E' : RoadKit.Exa Z h y ST) (V' : RoadKit.Fld Z h y ST "value" "[B" (.ref t')) (C' : RoadKit.Fld Z h y ST "coder" "B" (.int cd')) (K' : RoadKit.Arv Z h t' kb' .byte N2' vs' (.int 0)) (hc' : CodA ds cd' N2' vs') (hb' : ∀ c ∈ ds, ¬ c < 0 ∧ ¬ (65535 : Int32) < c) (l2' : ds.length ≤ 4000)
    {z : Int32} (S : RoadKit.Sta Z h ST "COMPACT_STRINGS" "Z" (.int z)) (hz : ¬ z = 0) (hfr : 2 ≤ R.frames) (hlo : W + 28 ≤ R.locals) :
    Back l R p e below s args (⟨"java/lang/String", "equals", "(Ljava/lang/Object;)Z"⟩ : MethodName) len W (fun P a => a = #[.ref x, .ref y] ∧ P.U.heap = h ∧ P.cells + 0 ≤ R.cells ∧ P.slots + 0 ≤ R.slots)
      (fun P _ v B => ∃ L, (((v = some (.int 1) ∧ cs = ds) ∨ (v = some (.int 0) ∧ ¬ cs = ds)) ∧ L = [] ∧ B.U.heap = h) ∧ B.locs = P.locs ++ L ∧ B.cells = P.cells + 0 ∧ B.slots = P.slots + 0) := by
  intro m meth c P g ig mk a X hg hsize hdg hW hn hp'
  obtain ⟨rfl, rfl, r1, r2⟩ := hp'
  have al : Z.vm.Alike P.U.vm := hZ.alike.trans X.warmed.alike
  obtain ⟨A, hx⟩ := txt_of wi al E V C K hc hb l2
  obtain ⟨A', hy⟩ := txt_of wi al E' V' C' K' hc' hb' l2'
  obtain ⟨v, B, X', ⟨⟨w, hv, hh, hq⟩, hl, hk, hs⟩, st⟩ := SEq.pays x t A cd cs.length (fun j => cs.getD j 0) y t' A' cd' ds.length (fun j => ds.getD j 0) z (tabEq_of (movedEq hZ hw)) hfr hlo m meth c P g ig mk _ X hg hsize hdg hW hn ⟨r1, r2, rfl, hx, hy, sta_is al S, hz⟩
  refine ⟨v, B, X', ⟨[], ⟨?_, rfl, hh⟩, hl, hk, hs⟩, st⟩
  rcases hq with ⟨rfl, q⟩ | ⟨rfl, q⟩
  · exact Or.inl ⟨hv, (same_list cs ds).mp q⟩
  · exact Or.inr ⟨hv, fun e => q ((same_list cs ds).mpr e)⟩
end StrChars.Road
end Jvm.Pilot.@@N@@
namespace Jvm.Pilot.@@N@@
open Jvm Jvm.ClassFile Sem Op Lib Jvm.Free Jvm.Stand Jvm.LawKit Jvm.RoadKit Bundle Jvm.Pilot.@@N@@.Jvm.D
def irm (a b : Int32) : Int32 := a - a / b * b
theorem wi {Z : State} {a0 : Array Value} (hw : ∀ d ∈ tables_1, d.before a0 Z = true) {d : Jvm.Cond} (i : Nat) (h : tables_1[i]? = some d) : d.before a0 Z = true := hw d (List.mem_of_getElem? h)
theorem own_uniq {Z : State} {h : Heap} {a : Addr} {C n d : String} {v w : Value} (F : Fld Z h a C n d v) (G : Fld Z h a C n d w) : v = w := by
  obtain ⟨c1, cf1, k1, i1, f1, a1, a2, -, -, -, -, a7⟩ := F
  obtain ⟨c2, cf2, k2, i2, f2, b1, b2, -, -, -, -, b7⟩ := G
  cases a1.symm.trans b1
  cases a2.symm.trans b2
  exact Option.some.inj (a7.symm.trans b7)
theorem own_ne {Z : State} {h : Heap} {a b : Addr} {C n d : String} {v w : Value} (F : Fld Z h a C n d v) (G : Fld Z h b C n d w) (hn : v ≠ w) : a ≠ b := fun e => by
  subst e
  exact hn (own_uniq F G)
theorem own_fldI {s : State} {args : Array Value} {t : Term} {a : Addr} {C n d : String} {k : Int32} (ev : t.eval args s none [] s = some (.ref a)) (h : (Cond.eq (Term.field t C n d) (Term.int k)).value args s none s [] = some true) : Fld s s.heap a C n d (.int k) := Fld.start ((fld_at ev).symm.trans (eqv_i rfl h))
theorem own_len {s : State} {args : Array Value} {t : Term} {a : Addr} {cl : Cell} {ty : FieldType} {n : Int32} (ev : t.eval args s none [] s = some (.ref a)) (A : Arr s s.heap a cl ty) (h : (Cond.eq (Term.length t) (Term.int n)).value args s none s [] = some true) : cl.slots.size < 2 ^ 31 ∧ cl.slots.size.toInt32 = n := by
  have e := eqv_i rfl h
  have ha := A.fin (Vm.Alike.refl _)
  simp only [Term.eval, ev, Option.bind_eq_bind, Option.bind_some, ha] at e
  split at e
  · rename_i hl
    exact ⟨hl, by simpa using e⟩
  · cases e
theorem own_elI {s : State} {args : Array Value} {t : Term} {a : Addr} {cl : Cell} {ty : FieldType} {j v : Int32} (ev : t.eval args s none [] s = some (.ref a)) (A : Arr s s.heap a cl ty) (h : (Cond.eq (Term.elem t (Term.int j)) (Term.int v)).value args s none s [] = some true) : cl.slots[j.toNatClampNeg]? = some (.int v) := (elem_in (eqv_i rfl h) ev rfl A.1).2
theorem own_eqv_r {Z : State} {args : Array Value} {X F : Term} {idx : List Nat} {y : Addr} (hF : F.eval args Z none idx Z = some (.ref y)) (h : (Cond.eq X F).value args Z none Z idx = some true) : X.eval args Z none idx Z = some (.ref y) := by
  obtain ⟨x, y', e1, e2, k1, k2⟩ := cmp_v (Or.inl h)
  cases hF.symm.trans e2
  have hx : x.isRef = true := k2.2
  rw [e1, gotT (eq_R e1 hF hx rfl) h]
theorem own_elR {s : State} {args : Array Value} {t F : Term} {a w : Addr} {cl : Cell} {ty : FieldType} {j : Int32} (ev : t.eval args s none [] s = some (.ref a)) (A : Arr s s.heap a cl ty) (hF : F.eval args s none [] s = some (.ref w)) (h : (Cond.eq (Term.elem t (Term.int j)) F).value args s none s [] = some true) : cl.slots[j.toNatClampNeg]? = some (.ref w) := (elem_in (own_eqv_r hF h) ev rfl A.1).2
theorem own_safe0 {Z : State} {EL : List (String × Nat)} {vm : Vm} {h : Heap} {x : Addr} (hal : Z.vm.Alike vm) (E : Exa Z h x "java/lang/String") (F : Fld Z h x "java/lang/String" "value" "[B" .null) : Safe Z EL vm h x := fun B => by
  obtain ⟨cell, k, e1, e2, e3, -, -⟩ := E
  obtain ⟨p, -, u, a, -, q, -, G, rfl | rfl⟩ := B
  · obtain ⟨c2, cf, kf, i, f, g1, g2, g3, g4, g5, g6, g7⟩ := F
    cases (show h[q.sa]? = some q.sC from G.ha).symm.trans g1
    obtain ⟨cS, ⟨⟨-, -, -, ⟨c1, k1, i1, f1, -⟩, -, -, -, v1, -⟩, -⟩, -⟩ := G
    obtain ⟨k3, e3', -⟩ := State.fieldFound?_setVm (s := Z) hal g2
    have e4 := (show (Wst Z vm h).fieldFound? _ _ _ = _ from e3').symm.trans f1
    simp only [Option.some.injEq, Prod.mk.injEq] at e4
    rw [← e4.2.2.2, g7] at v1
    cases v1
  · cases (show h[q.sd]? = some q.SA from G.hd).symm.trans e1
    obtain ⟨cS, -, -, f, -⟩ := G
    have f' := f
    rw [show (Wst Z vm h).vm.findClass "[B" = Z.vm.findClass "[B" from hal.findClass _ _] at f'
    obtain ⟨k1, q1, q2⟩ := Vm.findClass_spec f'
    obtain ⟨k2, q3, q4⟩ := Vm.findClass_spec e2
    cases q1.symm.trans q3
    exact absurd (q2.symm.trans q4) (by decide)
theorem own_up (cs : List Int32) (h : ∀ c ∈ cs, ¬ c < 0 ∧ ¬ (255 : Int32) < c) : ∀ c ∈ cs, ¬ c < 0 ∧ ¬ (65535 : Int32) < c := fun c hc => ⟨(h c hc).1, fun q => (h c hc).2 (by rw [Int32.lt_iff_toInt_lt] at q ⊢; have e1 : (65535 : Int32).toInt = 65535 := rfl; have e2 : (255 : Int32).toInt = 255 := rfl; omega)⟩
theorem own_memS {a : Int32} {l : List Int32} (h : ¬ a < 0 ∧ ¬ (255 : Int32) < a) (r : ∀ c ∈ l, ¬ c < 0 ∧ ¬ (255 : Int32) < c) : ∀ c ∈ a :: l, ¬ c < 0 ∧ ¬ (255 : Int32) < c := fun c hc => by
  rcases List.mem_cons.mp hc with q | q
  · rw [q]; exact h
  · exact r c q
theorem own_mem0 : ∀ c ∈ ([] : List Int32), ¬ c < 0 ∧ ¬ (255 : Int32) < c := fun _ q => nomatch q
def Str (Z : State) (h : Heap) (x : Addr) (cs : List Int32) : Prop := ∃ (t : Addr) (kb : ClassId) (N : Int32) (vs : List Value), Exa Z h x "java/lang/String" ∧ Fld Z h x "java/lang/String" "value" "[B" (.ref t) ∧ Fld Z h x "java/lang/String" "coder" "B" (.int 0) ∧ Arv Z h t kb .byte N vs (.int 0) ∧ StrChars.Road.CodA cs 0 N vs ∧ (∀ c ∈ cs, ¬ c < 0 ∧ ¬ (255 : Int32) < c) ∧ cs.length ≤ 4000
theorem Str.ext {Z : State} {h h' : Heap} {x : Addr} {cs : List Int32} (E : Ext h h') (S : Str Z h x cs) : Str Z h' x cs := by
  obtain ⟨t, kb, N, vs, q1, q2, q3, q4, q5, q6, q7⟩ := S
  exact ⟨t, kb, N, vs, q1.ext E, q2.ext E, q3.ext E, q4.ext E, q5, q6, q7⟩
theorem own_ext {h h' : Heap} (K : Keep h h' []) : Ext h h' := ⟨K.1, fun a c q => K.2.1 a c q nin0⟩
theorem own_EW {Z : State} {a0 : Array Value} (hw : ∀ d ∈ tables_1, d.before a0 Z = true) : EW Z a0 consts_1 := (EW.cons (wi hw 27 rfl) (by decide) (EW.cons (wi hw 48 rfl) (by decide) (EW.cons (wi hw 49 rfl) (by decide) EW.nil)))
def Q8 (Z : State) (kV : ClassId) (vs : List Value) (h0 : Heap) (n0 : Nat) (v : Option Value) (h : Heap) (L : List Loc) : Prop := ∃ b : Addr, v = some (.ref b) ∧ Fr n0 L ∧ Keep h0 h [] ∧ h0.size ≤ b ∧ Arv Z h b kV (.object "dev/tryst/tool/Workload$QueueKind") (3 : Int32) vs .null
theorem d2_0 : decode prog_40_method_1_code 0 = .ok (.getstatic 13, 3) := by decide +kernel
theorem d2_3 : decode prog_40_method_1_code 3 = .ok (.invokevirtual 17, 3) := by decide +kernel
theorem d2_6 : decode prog_40_method_1_code 6 = .ok (.checkcast 18, 3) := by decide +kernel
theorem d2_9 : decode prog_40_method_1_code 9 = .ok (.areturn, 1) := by decide +kernel
theorem ef__0 (m : MethodId)  : entryFrame m #[] 0 = mkF m 0 #[] [] := by first | (simp [entryFrame, mkF, argsToLocals, Value.category]; done) | rfl
theorem pn_0 : plainName "dev/tryst/tool/Workload$QueueKind" = true := by first | (simp [plainName, overriddenIn]; done) | decide +kernel
set_option maxRecDepth 65536 in
set_option maxHeartbeats 40000000 in
theorem rm8 (l : Launch) (Z : State) (a0 : Array Value) (hw : ∀ d ∈ tables_1, d.before a0 Z = true) (ws : List Jvm.Cond) (kV : ClassId) (wV w0 w1 w2 : Addr) (h0 : Heap) (n0 : Nat) (O0 : Old Z n0 h0) (S_V : Sta Z Z.heap "dev/tryst/tool/Workload$QueueKind" "$VALUES" "[Ldev/tryst/tool/Workload$QueueKind;" (.ref wV)) (A_V : Arv Z Z.heap wV kV (.object "dev/tryst/tool/Workload$QueueKind") (3 : Int32) [(.ref w0), (.ref w1), (.ref w2)] .null) (E_V : Exa Z Z.heap wV "[Ldev/tryst/tool/Workload$QueueKind;") :
    MetFree l (⟨"dev/tryst/tool/Workload$QueueKind", "values", "()[Ldev/tryst/tool/Workload$QueueKind;"⟩ : MethodName) (head1 (Jvm.Cond.code (⟨"dev/tryst/tool/Workload$QueueKind", "values", "()[Ldev/tryst/tool/Workload$QueueKind;"⟩ : MethodName) prog_40_method_1_code 0 (some (.array (.object "dev/tryst/tool/Workload$QueueKind"))) :: ws) ({ frames := 1, cells := 1, slots := 3, locals := 14 } : Room)) (fun a_ U => a_ = #[] ∧ Z.Warmed39 U.vm ∧ U.heap = h0) (fun _ _ _ _ _ => True) (fun _ U o U' => ∃ v L, o = .returned v ∧ Q8 Z kV [(.ref w0), (.ref w1), (.ref w2)] h0 n0 v U'.heap L ∧ FrameEnd U o U' L ({ frames := 1, cells := 1, slots := 3, locals := 14 } : Room).cells ({ frames := 1, cells := 1, slots := 3, locals := 14 } : Room).slots) := by
  refine MetFree.of_bodySF (plainFor_of_name pn_0) hisR ?_
  intro p e s m args below meth c s₁ Bd hml0 hP hK
  obtain ⟨rfl, hZ, hh⟩ := hP
  have hx := Bd.exec
  have hby := Bd.bytes
  have hml : c.maxLocals = 0 := hml0
  have hown : s.vm.findClass "dev/tryst/tool/Workload$QueueKind" = some m.cls := findClass_of_methodNamed Bd.named
  have hnm := (name_of_methodNamed Bd.named Bd.method).1
  have X0 : Stand p l e ({ frames := 1, cells := 1, slots := 3, locals := 14 } : Room) s m #[] below meth c s₁ [] 0 0 := Stand.of_body Bd
  have e0 : s₁.heap = h0 := by rw [← hh, Bd.state]; rfl
  have N0 := Fr.nil n0
  have pre0 : ∀ tg, Steps p.tables e below (s₁.setTop (mkF m 0 #[] [])) tg → Steps p.tables e below (s₁.setTop (entryFrame m #[] 0)) tg := fun tg kq => castTop (ef__0 m) kq
  obtain ⟨T101, X101, e101, st101⟩ := getS2 X0 hx hZ hown (host := "") (Or.inl (wi hw 7 rfl)) Via.refl e0 (S_V.ext O0.2) (g := (mkF m 0 #[] [])) rfl (hb hby d2_0)
  obtain ⟨T102, h102, X102, e102, E102, B102, A102, st102⟩ := cloneH X101 hx hZ hown (wi hw 9 rfl) (wi hw 10 rfl) (wi hw 14 rfl) (wi hw 12 rfl) (wi hw 13 rfl) (wi hw 15 rfl) e101 (Arv.arh (A_V.ext O0.2)) (E_V.ext O0.2) (g := (mkF m 3 #[] [(.ref wV)])) rfl (by rw [hml]; rfl) rfl (hb hby d2_3) (by decide) (W := 0) (cap := 3) (by show 2 * 0 + _ ≤ _; exact Nat.le_of_eq rfl) (by decide) (by decide) (by decide) (by decide)
  obtain ⟨b102, g102⟩ : ∃ z, z = h0.size := ⟨_, rfl⟩
  rw [← g102] at B102 A102 st102
  have g_b102 : n0 ≤ b102 := Nat.le_trans (O0.1 ▸ O0.2.1) (Nat.le_of_eq g102.symm)
  have sz_b102 : h0.size ≤ b102 := Nat.le_trans (Nat.le_refl _) (Nat.le_of_eq g102.symm)
  have O102 := O0.ext E102
  have KK102 : Keep h0 h102 [] := (Keep.refl h0 []).ext E102
  have V_b102 : Arv Z h102 b102 kV (.object "dev/tryst/tool/Workload$QueueKind") (3 : Int32) [(.ref w0), (.ref w1), (.ref w2)] .null := B102
  obtain ⟨T103, X103, e103, st103⟩ := castY X102 hx hZ hown (wi hw 20 rfl) e102 (Ins.self A102) (g := (mkF m 6 #[] [(.ref b102)])) rfl rfl (hb hby d2_6)
  obtain ⟨fs, hr, hrun, hended, hW, hsame⟩ := X103.leave (v := some (.ref b102)) (fun h => by rw [Bd.returns] at h; cases h)
  refine ⟨_, _, pre0 _ ?_, hrun, hended, _, _, rfl, ?_, ⟨_, rfl⟩, hW, hsame.mono (by decide) (by decide)⟩
  · show Steps p.tables e below (s₁.setTop (mkF m 0 #[] [])) _
    refine st101 _ ?_
    show Steps p.tables e below (T101.setTop (mkF m 3 #[] [(.ref wV)])) _
    refine st102 _ ?_
    show Steps p.tables e below (T102.setTop (mkF m 6 #[] [(.ref b102)])) _
    refine st103 _ ?_
    show Steps p.tables e below (T103.setTop (mkF m 9 #[] [(.ref b102)])) _
    jvm_step X103.here [X103.here.top, hx, (hb hby d2_9), X103.method', Bd.returns, Value.isRef, FieldType.isReference]
    first | (intro acts; rw [hr _ acts rfl rfl rfl]) | rw [hr _ _ rfl rfl rfl]
    exact Steps.refl _
  · show Q8 Z kV [(.ref w0), (.ref w1), (.ref w2)] h0 n0 _ T103.heap _
    rw [e103]
    exact ⟨_, rfl, N0, KK102, sz_b102, V_b102⟩
def Q1 (Z : State) (vs : List Value) (h0 : Heap) (n0 : Nat) (v : Option Value) (h : Heap) (L : List Loc) : Prop := ∃ (b : Addr) (kb : ClassId), v = some (.ref b) ∧ Fr n0 L ∧ Keep h0 h [] ∧ h0.size ≤ b ∧ Arv Z h b kb (.object "java/lang/String") (3 : Int32) vs .null
theorem d1_0 : decode prog_40_method_4_code 0 = .ok (.invokestatic 40, 3) := by decide +kernel
theorem pd_0 : parseMethodDescriptor "()[Ldev/tryst/tool/Workload$QueueKind;" = some ⟨[], some (.array (.object "dev/tryst/tool/Workload$QueueKind"))⟩ := by decide +kernel
theorem d1_3 : decode prog_40_method_4_code 3 = .ok (.astore_n 0, 1) := by decide +kernel
theorem d1_4 : decode prog_40_method_4_code 4 = .ok (.aload_n 0, 1) := by decide +kernel
theorem d1_5 : decode prog_40_method_4_code 5 = .ok (.arraylength, 1) := by decide +kernel
theorem d1_6 : decode prog_40_method_4_code 6 = .ok (.anewarray 44, 3) := by decide +kernel
theorem d1_9 : decode prog_40_method_4_code 9 = .ok (.astore_n 1, 1) := by decide +kernel
theorem d1_10 : decode prog_40_method_4_code 10 = .ok (.iconst 0, 1) := by decide +kernel
theorem d1_11 : decode prog_40_method_4_code 11 = .ok (.istore_n 2, 1) := by decide +kernel
theorem d1_12 : decode prog_40_method_4_code 12 = .ok (.iload_n 2, 1) := by decide +kernel
theorem d1_13 : decode prog_40_method_4_code 13 = .ok (.aload_n 0, 1) := by decide +kernel
theorem d1_14 : decode prog_40_method_4_code 14 = .ok (.arraylength, 1) := by decide +kernel
theorem d1_15 : decode prog_40_method_4_code 15 = .ok (.if_icmp .ge 18, 3) := by decide +kernel
theorem d1_18 : decode prog_40_method_4_code 18 = .ok (.aload_n 1, 1) := by decide +kernel
theorem d1_19 : decode prog_40_method_4_code 19 = .ok (.iload_n 2, 1) := by decide +kernel
theorem d1_20 : decode prog_40_method_4_code 20 = .ok (.aload_n 0, 1) := by decide +kernel
theorem d1_21 : decode prog_40_method_4_code 21 = .ok (.iload_n 2, 1) := by decide +kernel
theorem d1_22 : decode prog_40_method_4_code 22 = .ok (.aaload, 1) := by decide +kernel
theorem d1_23 : decode prog_40_method_4_code 23 = .ok (.getfield 32, 3) := by decide +kernel
theorem d1_26 : decode prog_40_method_4_code 26 = .ok (.aastore, 1) := by decide +kernel
theorem d1_27 : decode prog_40_method_4_code 27 = .ok (.iinc 2 1, 3) := by decide +kernel
theorem d1_30 : decode prog_40_method_4_code 30 = .ok (.goto (-18), 3) := by decide +kernel
theorem d1_33 : decode prog_40_method_4_code 33 = .ok (.aload_n 1, 1) := by decide +kernel
theorem d1_34 : decode prog_40_method_4_code 34 = .ok (.areturn, 1) := by decide +kernel
theorem ef__3 (m : MethodId)  : entryFrame m #[] 3 = mkF m 0 #[.unset, .unset, .unset] [] := by first | (simp [entryFrame, mkF, argsToLocals, Value.category]; done) | rfl
set_option maxRecDepth 65536 in
set_option maxHeartbeats 40000000 in
theorem rm1 (l : Launch) (Z : State) (a0 : Array Value) (hw : ∀ d ∈ tables_1, d.before a0 Z = true) (ws : List Jvm.Cond) (G1 : Int32) (kV : ClassId) (wV w0 w1 w2 : Addr) (s0 s1 s2 : Addr) (h0 : Heap) (n0 : Nat) (O0 : Old Z n0 h0) (S_CS : Sta Z Z.heap "java/lang/String" "COMPACT_STRINGS" "Z" (.int G1)) (hG1 : ¬ (G1 = (0 : Int32))) (S_V : Sta Z Z.heap "dev/tryst/tool/Workload$QueueKind" "$VALUES" "[Ldev/tryst/tool/Workload$QueueKind;" (.ref wV)) (A_V : Arv Z Z.heap wV kV (.object "dev/tryst/tool/Workload$QueueKind") (3 : Int32) [(.ref w0), (.ref w1), (.ref w2)] .null) (E_V : Exa Z Z.heap wV "[Ldev/tryst/tool/Workload$QueueKind;") (M0 : Fld Z Z.heap w0 "dev/tryst/tool/Workload$QueueKind" "mWord" "Ljava/lang/String;" (.ref s0)) (M1 : Fld Z Z.heap w1 "dev/tryst/tool/Workload$QueueKind" "mWord" "Ljava/lang/String;" (.ref s1)) (M2 : Fld Z Z.heap w2 "dev/tryst/tool/Workload$QueueKind" "mWord" "Ljava/lang/String;" (.ref s2)) (T0 : Str Z Z.heap s0 ([(97 : Int32), (114 : Int32), (114 : Int32), (97 : Int32), (121 : Int32)] : List Int32)) (T1 : Str Z Z.heap s1 ([(108 : Int32), (105 : Int32), (110 : Int32), (107 : Int32), (101 : Int32), (100 : Int32)] : List Int32)) (T2 : Str Z Z.heap s2 ([(108 : Int32), (105 : Int32), (110 : Int32), (107 : Int32), (101 : Int32), (100 : Int32), (45 : Int32), (100 : Int32), (101 : Int32), (113 : Int32), (117 : Int32), (101 : Int32)] : List Int32)) :
    MetFree l (⟨"dev/tryst/tool/Workload$QueueKind", "words", "()[Ljava/lang/String;"⟩ : MethodName) (head1 (Jvm.Cond.code (⟨"dev/tryst/tool/Workload$QueueKind", "words", "()[Ljava/lang/String;"⟩ : MethodName) prog_40_method_4_code 3 (some (.array (.object "java/lang/String"))) :: ws) ({ frames := 2, cells := 2, slots := 6, locals := 25 } : Room)) (fun a_ U => a_ = #[] ∧ Z.Warmed39 U.vm ∧ U.heap = h0) (fun _ _ _ _ _ => True) (fun _ U o U' => ∃ v L, o = .returned v ∧ Q1 Z [(.ref s0), (.ref s1), (.ref s2)] h0 n0 v U'.heap L ∧ FrameEnd U o U' L ({ frames := 2, cells := 2, slots := 6, locals := 25 } : Room).cells ({ frames := 2, cells := 2, slots := 6, locals := 25 } : Room).slots) := by
  refine MetFree.of_bodySF (plainFor_of_name pn_0) hisR ?_
  intro p e s m args below meth c s₁ Bd hml0 hP hK
  obtain ⟨rfl, hZ, hh⟩ := hP
  have hx := Bd.exec
  have hby := Bd.bytes
  have hml : c.maxLocals = 3 := hml0
  have hown : s.vm.findClass "dev/tryst/tool/Workload$QueueKind" = some m.cls := findClass_of_methodNamed Bd.named
  have hnm := (name_of_methodNamed Bd.named Bd.method).1
  have X0 : Stand p l e ({ frames := 2, cells := 2, slots := 6, locals := 25 } : Room) s m #[] below meth c s₁ [] 0 0 := Stand.of_body Bd
  have e0 : s₁.heap = h0 := by rw [← hh, Bd.state]; rfl
  have N0 := Fr.nil n0
  have pre0 : ∀ tg, Steps p.tables e below (s₁.setTop (mkF m 0 #[.unset, .unset, .unset] [])) tg → Steps p.tables e below (s₁.setTop (entryFrame m #[] 3)) tg := fun tg kq => castTop (ef__3 m) kq
  obtain ⟨tm0, kbm0, Nm0, vsm0, sEm0, sVm0, sCm0, sKm0, scdm0, shpm0, shlm0⟩ := id T0
  obtain ⟨tm1, kbm1, Nm1, vsm1, sEm1, sVm1, sCm1, sKm1, scdm1, shpm1, shlm1⟩ := id T1
  obtain ⟨tm2, kbm2, Nm2, vsm2, sEm2, sVm2, sCm2, sKm2, scdm2, shpm2, shlm2⟩ := id T2
  obtain ⟨_, _, ⟨T101, L101, k101, n101⟩, -, X101, ⟨Lc101, hQ101, l101, y101, z101⟩, st101⟩ := Jvm.LawKit.callS X0 hx (y := (⟨"dev/tryst/tool/Workload$QueueKind", "values", "()[Ldev/tryst/tool/Workload$QueueKind;"⟩ : MethodName)) hown (mvT hZ (wi hw 4 rfl)) (mvT hZ (wi hw 5 rfl)) (mvT hZ (wi hw 2 rfl)) (mvT hZ (wi hw 6 rfl)) (by decide) (backOf (W := 0) (rm8 l Z a0 hw [] kV wV w0 w1 w2 h0 n0 O0 S_V A_V E_V) hZ (wi hw 6 rfl) (wi hw 2 rfl) (by decide) (by decide)) (g := (mkF m 0 #[.unset, .unset, .unset] [])) rfl (by rw [hml]; rfl) (argsL := []) (rest := []) (lenOf pd_0 rfl) rfl (by show 2 * 0 + _ ≤ _; exact Nat.le_of_eq rfl) (hb hby d1_0) (fun _ _ => ⟨rfl, e0, (by decide : 0 + 1 ≤ _), (by decide : 0 + 3 ≤ _)⟩)
  dsimp only [Pt.U, Pt.locs, Pt.cells, Pt.slots] at X101 l101 y101 z101 st101 hQ101
  subst l101 y101 z101
  obtain ⟨bv101, rfl, N101q, K101, szv101, Av101⟩ := hQ101
  obtain ⟨h101, e101⟩ : ∃ z, T101.heap = z := ⟨_, rfl⟩
  rw [e101] at K101 Av101
  have g_bv101 : n0 ≤ bv101 := Nat.le_trans (O0.1 ▸ O0.2.1) szv101
  have sz_bv101 : h0.size ≤ bv101 := Nat.le_trans (Nat.le_refl _) szv101
  have O101 := O0.keep K101 all0
  have KK101 : Keep h0 h101 [] := (Keep.refl h0 []).trans K101 all0
  have N101 := Fr.app N0 N101q
  obtain ⟨cl_bv101_7, Ar_bv101_7, -, S_bv101_7, N_bv101_7, -, -⟩ := id (Av101)
  obtain ⟨T102, h102, k102, X102, e102, E102, A102, Ov102, st102⟩ := newR X101 hx hZ hown (wi hw 22 rfl) (wi hw 23 rfl) e101 (g := (mkF m 6 #[.val (.ref bv101), .unset, .unset] [(.int (3 : Int32))])) rfl (hb hby d1_6) rfl (by decide) (cap := 3) (by decide) (by decide) (by decide) (by decide)
  obtain ⟨b102, g102⟩ : ∃ z, z = h101.size := ⟨_, rfl⟩
  rw [← g102] at A102 st102
  have g_b102 : n0 ≤ b102 := Nat.le_trans (O101.1 ▸ O101.2.1) (Nat.le_of_eq g102.symm)
  have sz_b102 : h0.size ≤ b102 := Nat.le_trans KK101.1 (Nat.le_of_eq g102.symm)
  have O102 := O101.ext E102
  have KK102 : Keep h0 h102 [] := KK101.ext E102
  have V_b102 : Arv Z h102 b102 k102 (.object "java/lang/String") (3 : Int32) [.null, .null, .null] .null := (Arv.new A102 (by decide)).pad (pad_rep [] .null 3)
  have fV_bv101_2_103 := (Av101.ext E102)
  obtain ⟨cl_bv101_22, Ar_bv101_22, -, S_bv101_22, N_bv101_22, -, -⟩ := id (fV_bv101_2_103)
  obtain ⟨cl_bv101_35, Ar_bv101_35, q_bv101_35, S_bv101_35, N_bv101_35, H_bv101_35, G_bv101_35⟩ := id (fV_bv101_2_103)
  have hinbv101_35 : ¬ ((0 : Int32) < 0 ∨ cl_bv101_35.slots.size ≤ ((0 : Int32)).toNatClampNeg) := inb_of S_bv101_35 ⟨by decide, by decide⟩
  have hatbv101_35 : cl_bv101_35.slots[((0 : Int32)).toNatClampNeg]? = some (.ref w0) := H_bv101_35.at hinbv101_35 rfl
  obtain ⟨T104, X104, e104, st104⟩ := getF X102 hx hZ hown (host := "") (Or.inl (wi hw 24 rfl)) Via.refl e102 (M0.ext O102.2) (g := (mkF m 23 #[.val (.ref bv101), .val (.ref b102), .val (.int (0 : Int32))] [(.ref w0), (.int (0 : Int32)), (.ref b102)])) rfl rfl (hb hby d1_23)
  obtain ⟨cl_b102_39, Ar_b102_39, q_b102_39, S_b102_39, N_b102_39, H_b102_39, G_b102_39⟩ := id (V_b102)
  have hinb102_39 : ¬ ((0 : Int32) < 0 ∨ cl_b102_39.slots.size ≤ ((0 : Int32)).toNatClampNeg) := inb_of S_b102_39 ⟨by decide, by decide⟩
  obtain ⟨T105, h105, X105, e105, W105, st105⟩ := stR X104 hx hZ e104 Ar_b102_39 (j := (0 : Int32)) hinb102_39 rfl (Sto.ofV Ar_b102_39 q_b102_39 Ov102 (Ins.self (sEm0.ext O102.2))) (g := (mkF m 26 #[.val (.ref bv101), .val (.ref b102), .val (.int (0 : Int32))] [(.ref s0), (.int (0 : Int32)), (.ref b102)])) rfl rfl (hb hby d1_26)
  have V_b102_105 : Arv Z h105 b102 k102 (.object "java/lang/String") (3 : Int32) [(.ref s0), .null, .null] .null := Arv.set Ar_b102_39 q_b102_39 S_b102_39 N_b102_39 H_b102_39 G_b102_39 rfl W105 0 rfl (Nat.le_of_ble_eq_true rfl)
  have O105 := O102.wr W105 g_b102
  have KK105 : Keep h0 h105 [] := KK102.wr W105 (Or.inr sz_b102)
  have N105 := Fr.snoc X105 N101 g_b102
  have fV_bv101_3_106 := (fV_bv101_2_103.other W105 (Nat.ne_of_lt (Nat.lt_of_lt_of_le Av101.lt (Nat.le_of_eq g102.symm))))
  obtain ⟨cl_bv101_49, Ar_bv101_49, -, S_bv101_49, N_bv101_49, -, -⟩ := id (fV_bv101_3_106)
  obtain ⟨cl_bv101_62, Ar_bv101_62, q_bv101_62, S_bv101_62, N_bv101_62, H_bv101_62, G_bv101_62⟩ := id (fV_bv101_3_106)
  have hinbv101_62 : ¬ ((1 : Int32) < 0 ∨ cl_bv101_62.slots.size ≤ ((1 : Int32)).toNatClampNeg) := inb_of S_bv101_62 ⟨by decide, by decide⟩
  have hatbv101_62 : cl_bv101_62.slots[((1 : Int32)).toNatClampNeg]? = some (.ref w1) := H_bv101_62.at hinbv101_62 rfl
  obtain ⟨T107, X107, e107, st107⟩ := getF X105 hx hZ hown (host := "") (Or.inl (wi hw 24 rfl)) Via.refl e105 (M1.ext O105.2) (g := (mkF m 23 #[.val (.ref bv101), .val (.ref b102), .val (.int (1 : Int32))] [(.ref w1), (.int (1 : Int32)), (.ref b102)])) rfl rfl (hb hby d1_23)
  obtain ⟨cl_b102_66, Ar_b102_66, q_b102_66, S_b102_66, N_b102_66, H_b102_66, G_b102_66⟩ := id (V_b102_105)
  have hinb102_66 : ¬ ((1 : Int32) < 0 ∨ cl_b102_66.slots.size ≤ ((1 : Int32)).toNatClampNeg) := inb_of S_b102_66 ⟨by decide, by decide⟩
  obtain ⟨T108, h108, X108, e108, W108, st108⟩ := stR X107 hx hZ e107 Ar_b102_66 (j := (1 : Int32)) hinb102_66 rfl (Sto.ofV Ar_b102_66 q_b102_66 Ov102 (Ins.self (sEm1.ext O105.2))) (g := (mkF m 26 #[.val (.ref bv101), .val (.ref b102), .val (.int (1 : Int32))] [(.ref s1), (.int (1 : Int32)), (.ref b102)])) rfl rfl (hb hby d1_26)
  have V_b102_108 : Arv Z h108 b102 k102 (.object "java/lang/String") (3 : Int32) [(.ref s0), (.ref s1), .null] .null := Arv.set Ar_b102_66 q_b102_66 S_b102_66 N_b102_66 H_b102_66 G_b102_66 rfl W108 1 rfl (Nat.le_of_ble_eq_true rfl)
  have O108 := O105.wr W108 g_b102
  have KK108 : Keep h0 h108 [] := KK105.wr W108 (Or.inr sz_b102)
  have N108 := Fr.snoc X108 N105 g_b102
  have fV_bv101_4_109 := (fV_bv101_3_106.other W108 (Nat.ne_of_lt (Nat.lt_of_lt_of_le Av101.lt (Nat.le_of_eq g102.symm))))
  obtain ⟨cl_bv101_76, Ar_bv101_76, -, S_bv101_76, N_bv101_76, -, -⟩ := id (fV_bv101_4_109)
  obtain ⟨cl_bv101_89, Ar_bv101_89, q_bv101_89, S_bv101_89, N_bv101_89, H_bv101_89, G_bv101_89⟩ := id (fV_bv101_4_109)
  have hinbv101_89 : ¬ ((2 : Int32) < 0 ∨ cl_bv101_89.slots.size ≤ ((2 : Int32)).toNatClampNeg) := inb_of S_bv101_89 ⟨by decide, by decide⟩
  have hatbv101_89 : cl_bv101_89.slots[((2 : Int32)).toNatClampNeg]? = some (.ref w2) := H_bv101_89.at hinbv101_89 rfl
  obtain ⟨T110, X110, e110, st110⟩ := getF X108 hx hZ hown (host := "") (Or.inl (wi hw 24 rfl)) Via.refl e108 (M2.ext O108.2) (g := (mkF m 23 #[.val (.ref bv101), .val (.ref b102), .val (.int (2 : Int32))] [(.ref w2), (.int (2 : Int32)), (.ref b102)])) rfl rfl (hb hby d1_23)
  obtain ⟨cl_b102_93, Ar_b102_93, q_b102_93, S_b102_93, N_b102_93, H_b102_93, G_b102_93⟩ := id (V_b102_108)
  have hinb102_93 : ¬ ((2 : Int32) < 0 ∨ cl_b102_93.slots.size ≤ ((2 : Int32)).toNatClampNeg) := inb_of S_b102_93 ⟨by decide, by decide⟩
  obtain ⟨T111, h111, X111, e111, W111, st111⟩ := stR X110 hx hZ e110 Ar_b102_93 (j := (2 : Int32)) hinb102_93 rfl (Sto.ofV Ar_b102_93 q_b102_93 Ov102 (Ins.self (sEm2.ext O108.2))) (g := (mkF m 26 #[.val (.ref bv101), .val (.ref b102), .val (.int (2 : Int32))] [(.ref s2), (.int (2 : Int32)), (.ref b102)])) rfl rfl (hb hby d1_26)
  have V_b102_111 : Arv Z h111 b102 k102 (.object "java/lang/String") (3 : Int32) [(.ref s0), (.ref s1), (.ref s2)] .null := Arv.set Ar_b102_93 q_b102_93 S_b102_93 N_b102_93 H_b102_93 G_b102_93 rfl W111 2 rfl (Nat.le_of_ble_eq_true rfl)
  have O111 := O108.wr W111 g_b102
  have KK111 : Keep h0 h111 [] := KK108.wr W111 (Or.inr sz_b102)
  have N111 := Fr.snoc X111 N108 g_b102
  have fV_bv101_5_112 := (fV_bv101_4_109.other W111 (Nat.ne_of_lt (Nat.lt_of_lt_of_le Av101.lt (Nat.le_of_eq g102.symm))))
  obtain ⟨cl_bv101_103, Ar_bv101_103, -, S_bv101_103, N_bv101_103, -, -⟩ := id (fV_bv101_5_112)
  obtain ⟨fs, hr, hrun, hended, hW, hsame⟩ := X111.leave (v := some (.ref b102)) (fun h => by rw [Bd.returns] at h; cases h)
  refine ⟨_, _, pre0 _ ?_, hrun, hended, _, _, rfl, ?_, ⟨_, rfl⟩, hW, hsame.mono (by decide) (by decide)⟩
  · show Steps p.tables e below (s₁.setTop (mkF m 0 #[.unset, .unset, .unset] [])) _
    refine st101 _ ?_
    show Steps p.tables e below (T101.setTop (mkF m 3 #[.unset, .unset, .unset] [(.ref bv101)])) _
    refine XS.astoreN X101.here hx rfl (hb hby d1_3) rfl rfl (l' := #[.val (.ref bv101), .unset, .unset]) rfl ?_
    show Steps p.tables e below (T101.setTop (mkF m 4 #[.val (.ref bv101), .unset, .unset] [])) _
    refine XS.aloadN X101.here hx rfl (hb hby d1_4) rfl rfl ?_
    show Steps p.tables e below (T101.setTop (mkF m 5 #[.val (.ref bv101), .unset, .unset] [(.ref bv101)])) _
    refine X101.arraylength hx (by rw [e101]; exact Ar_bv101_7.1) (State.isArrayOf_alike hZ.alike Ar_bv101_7.2.1) (g := (mkF m 5 #[.val (.ref bv101), .unset, .unset] [(.ref bv101)])) rfl rfl (hb hby d1_5) _ ?_
    rw [len_of S_bv101_7 N_bv101_7]
    show Steps p.tables e below (T101.setTop (mkF m 6 #[.val (.ref bv101), .unset, .unset] [(.int (3 : Int32))])) _
    refine st102 _ ?_
    show Steps p.tables e below (T102.setTop (mkF m 9 #[.val (.ref bv101), .unset, .unset] [(.ref b102)])) _
    refine XS.astoreN X102.here hx rfl (hb hby d1_9) rfl rfl (l' := #[.val (.ref bv101), .val (.ref b102), .unset]) rfl ?_
    show Steps p.tables e below (T102.setTop (mkF m 10 #[.val (.ref bv101), .val (.ref b102), .unset] [])) _
    refine XS.iconst X102.here hx rfl (hb hby d1_10) ?_
    show Steps p.tables e below (T102.setTop (mkF m 11 #[.val (.ref bv101), .val (.ref b102), .unset] [(.int (0 : Int32))])) _
    refine XS.istoreN X102.here hx rfl (hb hby d1_11) rfl (l' := #[.val (.ref bv101), .val (.ref b102), .val (.int (0 : Int32))]) rfl ?_
    show Steps p.tables e below (T102.setTop (mkF m 12 #[.val (.ref bv101), .val (.ref b102), .val (.int (0 : Int32))] [])) _
    refine XS.iloadN X102.here hx rfl (hb hby d1_12) rfl ?_
    show Steps p.tables e below (T102.setTop (mkF m 13 #[.val (.ref bv101), .val (.ref b102), .val (.int (0 : Int32))] [(.int (0 : Int32))])) _
    refine XS.aloadN X102.here hx rfl (hb hby d1_13) rfl rfl ?_
    show Steps p.tables e below (T102.setTop (mkF m 14 #[.val (.ref bv101), .val (.ref b102), .val (.int (0 : Int32))] [(.ref bv101), (.int (0 : Int32))])) _
    refine X102.arraylength hx (by rw [e102]; exact Ar_bv101_22.1) (State.isArrayOf_alike hZ.alike Ar_bv101_22.2.1) (g := (mkF m 14 #[.val (.ref bv101), .val (.ref b102), .val (.int (0 : Int32))] [(.ref bv101), (.int (0 : Int32))])) rfl rfl (hb hby d1_14) _ ?_
    rw [len_of S_bv101_22 N_bv101_22]
    show Steps p.tables e below (T102.setTop (mkF m 15 #[.val (.ref bv101), .val (.ref b102), .val (.int (0 : Int32))] [(.int (3 : Int32)), (.int (0 : Int32))])) _
    refine XS.icmpNo X102.here hx rfl (hb hby d1_15) rfl (tlt (by decide : (0 : Int32) < (3 : Int32))).2.1 ?_
    show Steps p.tables e below (T102.setTop (mkF m 18 #[.val (.ref bv101), .val (.ref b102), .val (.int (0 : Int32))] [])) _
    refine XS.aloadN X102.here hx rfl (hb hby d1_18) rfl rfl ?_
    show Steps p.tables e below (T102.setTop (mkF m 19 #[.val (.ref bv101), .val (.ref b102), .val (.int (0 : Int32))] [(.ref b102)])) _
    refine XS.iloadN X102.here hx rfl (hb hby d1_19) rfl ?_
    show Steps p.tables e below (T102.setTop (mkF m 20 #[.val (.ref bv101), .val (.ref b102), .val (.int (0 : Int32))] [(.int (0 : Int32)), (.ref b102)])) _
    refine XS.aloadN X102.here hx rfl (hb hby d1_20) rfl rfl ?_
    show Steps p.tables e below (T102.setTop (mkF m 21 #[.val (.ref bv101), .val (.ref b102), .val (.int (0 : Int32))] [(.ref bv101), (.int (0 : Int32)), (.ref b102)])) _
    refine XS.iloadN X102.here hx rfl (hb hby d1_21) rfl ?_
    show Steps p.tables e below (T102.setTop (mkF m 22 #[.val (.ref bv101), .val (.ref b102), .val (.int (0 : Int32))] [(.int (0 : Int32)), (.ref bv101), (.int (0 : Int32)), (.ref b102)])) _
    refine X102.aaload hx (j := (0 : Int32)) (v := (.ref w0)) (by rw [e102]; exact Ar_bv101_35.1) (State.isArrayOf_alike hZ.alike Ar_bv101_35.2.1) rfl Ar_bv101_35.2.2 hinbv101_35 hatbv101_35 (g := (mkF m 22 #[.val (.ref bv101), .val (.ref b102), .val (.int (0 : Int32))] [(.int (0 : Int32)), (.ref bv101), (.int (0 : Int32)), (.ref b102)])) rfl rfl (hb hby d1_22) _ ?_
    show Steps p.tables e below (T102.setTop (mkF m 23 #[.val (.ref bv101), .val (.ref b102), .val (.int (0 : Int32))] [(.ref w0), (.int (0 : Int32)), (.ref b102)])) _
    refine st104 _ ?_
    show Steps p.tables e below (T104.setTop (mkF m 26 #[.val (.ref bv101), .val (.ref b102), .val (.int (0 : Int32))] [(.ref s0), (.int (0 : Int32)), (.ref b102)])) _
    refine st105 _ ?_
    show Steps p.tables e below (T105.setTop (mkF m 27 #[.val (.ref bv101), .val (.ref b102), .val (.int (0 : Int32))] [])) _
    refine XS.iinc X105.here hx rfl (hb hby d1_27) rfl (l' := #[.val (.ref bv101), .val (.ref b102), .val (.int (1 : Int32))]) rfl ?_
    show Steps p.tables e below (T105.setTop (mkF m 30 #[.val (.ref bv101), .val (.ref b102), .val (.int (1 : Int32))] [])) _
    refine XS.goto X105.here hx rfl (pc0 := 30) (pc' := 12) rfl (hb hby d1_30) (by decide) (by decide) ?_
    show Steps p.tables e below (T105.setTop (mkF m 12 #[.val (.ref bv101), .val (.ref b102), .val (.int (1 : Int32))] [])) _
    refine XS.iloadN X105.here hx rfl (hb hby d1_12) rfl ?_
    show Steps p.tables e below (T105.setTop (mkF m 13 #[.val (.ref bv101), .val (.ref b102), .val (.int (1 : Int32))] [(.int (1 : Int32))])) _
    refine XS.aloadN X105.here hx rfl (hb hby d1_13) rfl rfl ?_
    show Steps p.tables e below (T105.setTop (mkF m 14 #[.val (.ref bv101), .val (.ref b102), .val (.int (1 : Int32))] [(.ref bv101), (.int (1 : Int32))])) _
    refine X105.arraylength hx (by rw [e105]; exact Ar_bv101_49.1) (State.isArrayOf_alike hZ.alike Ar_bv101_49.2.1) (g := (mkF m 14 #[.val (.ref bv101), .val (.ref b102), .val (.int (1 : Int32))] [(.ref bv101), (.int (1 : Int32))])) rfl rfl (hb hby d1_14) _ ?_
    rw [len_of S_bv101_49 N_bv101_49]
    show Steps p.tables e below (T105.setTop (mkF m 15 #[.val (.ref bv101), .val (.ref b102), .val (.int (1 : Int32))] [(.int (3 : Int32)), (.int (1 : Int32))])) _
    refine XS.icmpNo X105.here hx rfl (hb hby d1_15) rfl (tlt (by decide : (1 : Int32) < (3 : Int32))).2.1 ?_
    show Steps p.tables e below (T105.setTop (mkF m 18 #[.val (.ref bv101), .val (.ref b102), .val (.int (1 : Int32))] [])) _
    refine XS.aloadN X105.here hx rfl (hb hby d1_18) rfl rfl ?_
    show Steps p.tables e below (T105.setTop (mkF m 19 #[.val (.ref bv101), .val (.ref b102), .val (.int (1 : Int32))] [(.ref b102)])) _
    refine XS.iloadN X105.here hx rfl (hb hby d1_19) rfl ?_
    show Steps p.tables e below (T105.setTop (mkF m 20 #[.val (.ref bv101), .val (.ref b102), .val (.int (1 : Int32))] [(.int (1 : Int32)), (.ref b102)])) _
    refine XS.aloadN X105.here hx rfl (hb hby d1_20) rfl rfl ?_
    show Steps p.tables e below (T105.setTop (mkF m 21 #[.val (.ref bv101), .val (.ref b102), .val (.int (1 : Int32))] [(.ref bv101), (.int (1 : Int32)), (.ref b102)])) _
    refine XS.iloadN X105.here hx rfl (hb hby d1_21) rfl ?_
    show Steps p.tables e below (T105.setTop (mkF m 22 #[.val (.ref bv101), .val (.ref b102), .val (.int (1 : Int32))] [(.int (1 : Int32)), (.ref bv101), (.int (1 : Int32)), (.ref b102)])) _
    refine X105.aaload hx (j := (1 : Int32)) (v := (.ref w1)) (by rw [e105]; exact Ar_bv101_62.1) (State.isArrayOf_alike hZ.alike Ar_bv101_62.2.1) rfl Ar_bv101_62.2.2 hinbv101_62 hatbv101_62 (g := (mkF m 22 #[.val (.ref bv101), .val (.ref b102), .val (.int (1 : Int32))] [(.int (1 : Int32)), (.ref bv101), (.int (1 : Int32)), (.ref b102)])) rfl rfl (hb hby d1_22) _ ?_
    show Steps p.tables e below (T105.setTop (mkF m 23 #[.val (.ref bv101), .val (.ref b102), .val (.int (1 : Int32))] [(.ref w1), (.int (1 : Int32)), (.ref b102)])) _
    refine st107 _ ?_
    show Steps p.tables e below (T107.setTop (mkF m 26 #[.val (.ref bv101), .val (.ref b102), .val (.int (1 : Int32))] [(.ref s1), (.int (1 : Int32)), (.ref b102)])) _
    refine st108 _ ?_
    show Steps p.tables e below (T108.setTop (mkF m 27 #[.val (.ref bv101), .val (.ref b102), .val (.int (1 : Int32))] [])) _
    refine XS.iinc X108.here hx rfl (hb hby d1_27) rfl (l' := #[.val (.ref bv101), .val (.ref b102), .val (.int (2 : Int32))]) rfl ?_
    show Steps p.tables e below (T108.setTop (mkF m 30 #[.val (.ref bv101), .val (.ref b102), .val (.int (2 : Int32))] [])) _
    refine XS.goto X108.here hx rfl (pc0 := 30) (pc' := 12) rfl (hb hby d1_30) (by decide) (by decide) ?_
    show Steps p.tables e below (T108.setTop (mkF m 12 #[.val (.ref bv101), .val (.ref b102), .val (.int (2 : Int32))] [])) _
    refine XS.iloadN X108.here hx rfl (hb hby d1_12) rfl ?_
    show Steps p.tables e below (T108.setTop (mkF m 13 #[.val (.ref bv101), .val (.ref b102), .val (.int (2 : Int32))] [(.int (2 : Int32))])) _
    refine XS.aloadN X108.here hx rfl (hb hby d1_13) rfl rfl ?_
    show Steps p.tables e below (T108.setTop (mkF m 14 #[.val (.ref bv101), .val (.ref b102), .val (.int (2 : Int32))] [(.ref bv101), (.int (2 : Int32))])) _
    refine X108.arraylength hx (by rw [e108]; exact Ar_bv101_76.1) (State.isArrayOf_alike hZ.alike Ar_bv101_76.2.1) (g := (mkF m 14 #[.val (.ref bv101), .val (.ref b102), .val (.int (2 : Int32))] [(.ref bv101), (.int (2 : Int32))])) rfl rfl (hb hby d1_14) _ ?_
    rw [len_of S_bv101_76 N_bv101_76]
    show Steps p.tables e below (T108.setTop (mkF m 15 #[.val (.ref bv101), .val (.ref b102), .val (.int (2 : Int32))] [(.int (3 : Int32)), (.int (2 : Int32))])) _
    refine XS.icmpNo X108.here hx rfl (hb hby d1_15) rfl (tlt (by decide : (2 : Int32) < (3 : Int32))).2.1 ?_
    show Steps p.tables e below (T108.setTop (mkF m 18 #[.val (.ref bv101), .val (.ref b102), .val (.int (2 : Int32))] [])) _
    refine XS.aloadN X108.here hx rfl (hb hby d1_18) rfl rfl ?_
    show Steps p.tables e below (T108.setTop (mkF m 19 #[.val (.ref bv101), .val (.ref b102), .val (.int (2 : Int32))] [(.ref b102)])) _
    refine XS.iloadN X108.here hx rfl (hb hby d1_19) rfl ?_
    show Steps p.tables e below (T108.setTop (mkF m 20 #[.val (.ref bv101), .val (.ref b102), .val (.int (2 : Int32))] [(.int (2 : Int32)), (.ref b102)])) _
    refine XS.aloadN X108.here hx rfl (hb hby d1_20) rfl rfl ?_
    show Steps p.tables e below (T108.setTop (mkF m 21 #[.val (.ref bv101), .val (.ref b102), .val (.int (2 : Int32))] [(.ref bv101), (.int (2 : Int32)), (.ref b102)])) _
    refine XS.iloadN X108.here hx rfl (hb hby d1_21) rfl ?_
    show Steps p.tables e below (T108.setTop (mkF m 22 #[.val (.ref bv101), .val (.ref b102), .val (.int (2 : Int32))] [(.int (2 : Int32)), (.ref bv101), (.int (2 : Int32)), (.ref b102)])) _
    refine X108.aaload hx (j := (2 : Int32)) (v := (.ref w2)) (by rw [e108]; exact Ar_bv101_89.1) (State.isArrayOf_alike hZ.alike Ar_bv101_89.2.1) rfl Ar_bv101_89.2.2 hinbv101_89 hatbv101_89 (g := (mkF m 22 #[.val (.ref bv101), .val (.ref b102), .val (.int (2 : Int32))] [(.int (2 : Int32)), (.ref bv101), (.int (2 : Int32)), (.ref b102)])) rfl rfl (hb hby d1_22) _ ?_
    show Steps p.tables e below (T108.setTop (mkF m 23 #[.val (.ref bv101), .val (.ref b102), .val (.int (2 : Int32))] [(.ref w2), (.int (2 : Int32)), (.ref b102)])) _
    refine st110 _ ?_
    show Steps p.tables e below (T110.setTop (mkF m 26 #[.val (.ref bv101), .val (.ref b102), .val (.int (2 : Int32))] [(.ref s2), (.int (2 : Int32)), (.ref b102)])) _
    refine st111 _ ?_
    show Steps p.tables e below (T111.setTop (mkF m 27 #[.val (.ref bv101), .val (.ref b102), .val (.int (2 : Int32))] [])) _
    refine XS.iinc X111.here hx rfl (hb hby d1_27) rfl (l' := #[.val (.ref bv101), .val (.ref b102), .val (.int (3 : Int32))]) rfl ?_
    show Steps p.tables e below (T111.setTop (mkF m 30 #[.val (.ref bv101), .val (.ref b102), .val (.int (3 : Int32))] [])) _
    refine XS.goto X111.here hx rfl (pc0 := 30) (pc' := 12) rfl (hb hby d1_30) (by decide) (by decide) ?_
    show Steps p.tables e below (T111.setTop (mkF m 12 #[.val (.ref bv101), .val (.ref b102), .val (.int (3 : Int32))] [])) _
    refine XS.iloadN X111.here hx rfl (hb hby d1_12) rfl ?_
    show Steps p.tables e below (T111.setTop (mkF m 13 #[.val (.ref bv101), .val (.ref b102), .val (.int (3 : Int32))] [(.int (3 : Int32))])) _
    refine XS.aloadN X111.here hx rfl (hb hby d1_13) rfl rfl ?_
    show Steps p.tables e below (T111.setTop (mkF m 14 #[.val (.ref bv101), .val (.ref b102), .val (.int (3 : Int32))] [(.ref bv101), (.int (3 : Int32))])) _
    refine X111.arraylength hx (by rw [e111]; exact Ar_bv101_103.1) (State.isArrayOf_alike hZ.alike Ar_bv101_103.2.1) (g := (mkF m 14 #[.val (.ref bv101), .val (.ref b102), .val (.int (3 : Int32))] [(.ref bv101), (.int (3 : Int32))])) rfl rfl (hb hby d1_14) _ ?_
    rw [len_of S_bv101_103 N_bv101_103]
    show Steps p.tables e below (T111.setTop (mkF m 15 #[.val (.ref bv101), .val (.ref b102), .val (.int (3 : Int32))] [(.int (3 : Int32)), (.int (3 : Int32))])) _
    refine XS.icmpYes X111.here hx rfl (pc0 := 15) (pc' := 33) rfl (hb hby d1_15) rfl (flt (by decide : ¬ ((3 : Int32) < (3 : Int32)))).2.1 (by decide) (by decide) ?_
    show Steps p.tables e below (T111.setTop (mkF m 33 #[.val (.ref bv101), .val (.ref b102), .val (.int (3 : Int32))] [])) _
    refine XS.aloadN X111.here hx rfl (hb hby d1_33) rfl rfl ?_
    show Steps p.tables e below (T111.setTop (mkF m 34 #[.val (.ref bv101), .val (.ref b102), .val (.int (3 : Int32))] [(.ref b102)])) _
    jvm_step X111.here [X111.here.top, hx, (hb hby d1_34), X111.method', Bd.returns, Value.isRef, FieldType.isReference]
    first | (intro acts; rw [hr _ acts rfl rfl rfl]) | rw [hr _ _ rfl rfl rfl]
    exact Steps.refl _
  · show Q1 Z [(.ref s0), (.ref s1), (.ref s2)] h0 n0 _ T111.heap _
    rw [e111]
    exact ⟨_, _, rfl, N111, KK111, sz_b102, V_b102_111⟩
def Q7 (r : Value) (h0 : Heap) (n0 : Nat) (v : Option Value) (h : Heap) (L : List Loc) : Prop := v = some r ∧ Fr n0 L ∧ Keep h0 h []
theorem d5_0 : decode prog_40_method_5_code 0 = .ok (.invokestatic 40, 3) := by decide +kernel
theorem d5_3 : decode prog_40_method_5_code 3 = .ok (.astore_n 1, 1) := by decide +kernel
theorem d5_4 : decode prog_40_method_5_code 4 = .ok (.aload_n 1, 1) := by decide +kernel
theorem d5_5 : decode prog_40_method_5_code 5 = .ok (.arraylength, 1) := by decide +kernel
theorem d5_6 : decode prog_40_method_5_code 6 = .ok (.istore_n 2, 1) := by decide +kernel
theorem d5_7 : decode prog_40_method_5_code 7 = .ok (.iconst 0, 1) := by decide +kernel
theorem d5_8 : decode prog_40_method_5_code 8 = .ok (.istore_n 3, 1) := by decide +kernel
theorem d5_9 : decode prog_40_method_5_code 9 = .ok (.iload_n 3, 1) := by decide +kernel
theorem d5_10 : decode prog_40_method_5_code 10 = .ok (.iload_n 2, 1) := by decide +kernel
theorem d5_11 : decode prog_40_method_5_code 11 = .ok (.if_icmp .ge 29, 3) := by decide +kernel
theorem d5_14 : decode prog_40_method_5_code 14 = .ok (.aload_n 1, 1) := by decide +kernel
theorem d5_15 : decode prog_40_method_5_code 15 = .ok (.iload_n 3, 1) := by decide +kernel
theorem d5_16 : decode prog_40_method_5_code 16 = .ok (.aaload, 1) := by decide +kernel
theorem d5_17 : decode prog_40_method_5_code 17 = .ok (.astore 4, 2) := by decide +kernel
theorem d5_19 : decode prog_40_method_5_code 19 = .ok (.aload 4, 2) := by decide +kernel
theorem d5_21 : decode prog_40_method_5_code 21 = .ok (.getfield 32, 3) := by decide +kernel
theorem d5_24 : decode prog_40_method_5_code 24 = .ok (.aload_n 0, 1) := by decide +kernel
theorem d5_25 : decode prog_40_method_5_code 25 = .ok (.invokevirtual 46, 3) := by decide +kernel
theorem own_w_eqW : ∀ d ∈ StrChars.Road.wordsEq, d ∈ tables_1 := by decide +kernel
theorem pd_1 : parseMethodDescriptor "(Ljava/lang/Object;)Z" = some ⟨[(.object "java/lang/Object")], some .boolean⟩ := by decide +kernel
theorem d5_28 : decode prog_40_method_5_code 28 = .ok (.ifCond .eq 6, 3) := by decide +kernel
theorem d5_31 : decode prog_40_method_5_code 31 = .ok (.aload 4, 2) := by decide +kernel
theorem d5_33 : decode prog_40_method_5_code 33 = .ok (.areturn, 1) := by decide +kernel
theorem ef_R_5 (m : MethodId) (x0 : Addr) : entryFrame m #[(.ref x0)] 5 = mkF m 0 #[.val (.ref x0), .unset, .unset, .unset, .unset] [] := by first | (simp [entryFrame, mkF, argsToLocals, Value.category]; done) | rfl
set_option maxRecDepth 65536 in
set_option maxHeartbeats 40000000 in
theorem rm7_0 (l : Launch) (Z : State) (a0 : Array Value) (hw : ∀ d ∈ tables_1, d.before a0 Z = true) (ws : List Jvm.Cond) (G1 : Int32) (kV : ClassId) (wV w0 w1 w2 : Addr) (s0 s1 s2 : Addr) (h0 : Heap) (n0 : Nat) (O0 : Old Z n0 h0) (S_CS : Sta Z Z.heap "java/lang/String" "COMPACT_STRINGS" "Z" (.int G1)) (hG1 : ¬ (G1 = (0 : Int32))) (S_V : Sta Z Z.heap "dev/tryst/tool/Workload$QueueKind" "$VALUES" "[Ldev/tryst/tool/Workload$QueueKind;" (.ref wV)) (A_V : Arv Z Z.heap wV kV (.object "dev/tryst/tool/Workload$QueueKind") (3 : Int32) [(.ref w0), (.ref w1), (.ref w2)] .null) (E_V : Exa Z Z.heap wV "[Ldev/tryst/tool/Workload$QueueKind;") (M0 : Fld Z Z.heap w0 "dev/tryst/tool/Workload$QueueKind" "mWord" "Ljava/lang/String;" (.ref s0)) (M1 : Fld Z Z.heap w1 "dev/tryst/tool/Workload$QueueKind" "mWord" "Ljava/lang/String;" (.ref s1)) (M2 : Fld Z Z.heap w2 "dev/tryst/tool/Workload$QueueKind" "mWord" "Ljava/lang/String;" (.ref s2)) (T0 : Str Z Z.heap s0 ([(97 : Int32), (114 : Int32), (114 : Int32), (97 : Int32), (121 : Int32)] : List Int32)) (T1 : Str Z Z.heap s1 ([(108 : Int32), (105 : Int32), (110 : Int32), (107 : Int32), (101 : Int32), (100 : Int32)] : List Int32)) (T2 : Str Z Z.heap s2 ([(108 : Int32), (105 : Int32), (110 : Int32), (107 : Int32), (101 : Int32), (100 : Int32), (45 : Int32), (100 : Int32), (101 : Int32), (113 : Int32), (117 : Int32), (101 : Int32)] : List Int32)) :
    MetFree l (⟨"dev/tryst/tool/Workload$QueueKind", "of", "(Ljava/lang/String;)Ldev/tryst/tool/Workload$QueueKind;"⟩ : MethodName) (head1 (Jvm.Cond.code (⟨"dev/tryst/tool/Workload$QueueKind", "of", "(Ljava/lang/String;)Ldev/tryst/tool/Workload$QueueKind;"⟩ : MethodName) prog_40_method_5_code 5 (some (.object "dev/tryst/tool/Workload$QueueKind")) :: ws) ({ frames := 2, cells := 1, slots := 3, locals := 28 } : Room)) (fun a_ U => a_ = #[(.ref s0)] ∧ Z.Warmed39 U.vm ∧ U.heap = h0) (fun _ _ _ _ _ => True) (fun _ U o U' => ∃ v L, o = .returned v ∧ Q7 (.ref w0) h0 n0 v U'.heap L ∧ FrameEnd U o U' L ({ frames := 2, cells := 1, slots := 3, locals := 28 } : Room).cells ({ frames := 2, cells := 1, slots := 3, locals := 28 } : Room).slots) := by
  refine MetFree.of_bodySF (plainFor_of_name pn_0) hisR ?_
  intro p e s m args below meth c s₁ Bd hml0 hP hK
  obtain ⟨rfl, hZ, hh⟩ := hP
  have hx := Bd.exec
  have hby := Bd.bytes
  have hml : c.maxLocals = 5 := hml0
  have hown : s.vm.findClass "dev/tryst/tool/Workload$QueueKind" = some m.cls := findClass_of_methodNamed Bd.named
  have hnm := (name_of_methodNamed Bd.named Bd.method).1
  have X0 : Stand p l e ({ frames := 2, cells := 1, slots := 3, locals := 28 } : Room) s m #[(.ref s0)] below meth c s₁ [] 0 0 := Stand.of_body Bd
  have e0 : s₁.heap = h0 := by rw [← hh, Bd.state]; rfl
  have N0 := Fr.nil n0
  have pre0 : ∀ tg, Steps p.tables e below (s₁.setTop (mkF m 0 #[.val (.ref s0), .unset, .unset, .unset, .unset] [])) tg → Steps p.tables e below (s₁.setTop (entryFrame m #[(.ref s0)] 5)) tg := fun tg kq => castTop (ef_R_5 m s0) kq
  obtain ⟨tm0, kbm0, Nm0, vsm0, sEm0, sVm0, sCm0, sKm0, scdm0, shpm0, shlm0⟩ := id T0
  obtain ⟨tm1, kbm1, Nm1, vsm1, sEm1, sVm1, sCm1, sKm1, scdm1, shpm1, shlm1⟩ := id T1
  obtain ⟨tm2, kbm2, Nm2, vsm2, sEm2, sVm2, sCm2, sKm2, scdm2, shpm2, shlm2⟩ := id T2
  obtain ⟨_, _, ⟨T101, L101, k101, n101⟩, -, X101, ⟨Lc101, hQ101, l101, y101, z101⟩, st101⟩ := Jvm.LawKit.callS X0 hx (y := (⟨"dev/tryst/tool/Workload$QueueKind", "values", "()[Ldev/tryst/tool/Workload$QueueKind;"⟩ : MethodName)) hown (mvT hZ (wi hw 4 rfl)) (mvT hZ (wi hw 5 rfl)) (mvT hZ (wi hw 2 rfl)) (mvT hZ (wi hw 6 rfl)) (by decide) (backOf (W := 0) (rm8 l Z a0 hw [] kV wV w0 w1 w2 h0 n0 O0 S_V A_V E_V) hZ (wi hw 6 rfl) (wi hw 2 rfl) (by decide) (by decide)) (g := (mkF m 0 #[.val (.ref s0), .unset, .unset, .unset, .unset] [])) rfl (by rw [hml]; rfl) (argsL := []) (rest := []) (lenOf pd_0 rfl) rfl (by show 2 * 0 + _ ≤ _; exact Nat.le_of_eq rfl) (hb hby d5_0) (fun _ _ => ⟨rfl, e0, (by decide : 0 + 1 ≤ _), (by decide : 0 + 3 ≤ _)⟩)
  dsimp only [Pt.U, Pt.locs, Pt.cells, Pt.slots] at X101 l101 y101 z101 st101 hQ101
  subst l101 y101 z101
  obtain ⟨bv101, rfl, N101q, K101, szv101, Av101⟩ := hQ101
  obtain ⟨h101, e101⟩ : ∃ z, T101.heap = z := ⟨_, rfl⟩
  rw [e101] at K101 Av101
  have g_bv101 : n0 ≤ bv101 := Nat.le_trans (O0.1 ▸ O0.2.1) szv101
  have sz_bv101 : h0.size ≤ bv101 := Nat.le_trans (Nat.le_refl _) szv101
  have O101 := O0.keep K101 all0
  have KK101 : Keep h0 h101 [] := (Keep.refl h0 []).trans K101 all0
  have N101 := Fr.app N0 N101q
  obtain ⟨cl_bv101_7, Ar_bv101_7, -, S_bv101_7, N_bv101_7, -, -⟩ := id (Av101)
  obtain ⟨cl_bv101_26, Ar_bv101_26, q_bv101_26, S_bv101_26, N_bv101_26, H_bv101_26, G_bv101_26⟩ := id (Av101)
  have hinbv101_26 : ¬ ((0 : Int32) < 0 ∨ cl_bv101_26.slots.size ≤ ((0 : Int32)).toNatClampNeg) := inb_of S_bv101_26 ⟨by decide, by decide⟩
  have hatbv101_26 : cl_bv101_26.slots[((0 : Int32)).toNatClampNeg]? = some (.ref w0) := H_bv101_26.at hinbv101_26 rfl
  obtain ⟨T102, X102, e102, st102⟩ := getF X101 hx hZ hown (host := "") (Or.inl (wi hw 24 rfl)) Via.refl e101 (M0.ext O101.2) (g := (mkF m 21 #[.val (.ref s0), .val (.ref bv101), .val (.int (3 : Int32)), .val (.int (0 : Int32)), .val (.ref w0)] [(.ref w0)])) rfl rfl (hb hby d5_21)
  obtain ⟨cq103, kq103, q103a, q103b, q103c⟩ := isOf hZ e102 (sEm0.ext O101.2)
  obtain ⟨_, _, ⟨T103, L103, k103, n103⟩, -, X103, ⟨Lc103, hQ103, l103, y103, z103⟩, st103⟩ := X102.virtualBack hx (y := (⟨"java/lang/String", "equals", "(Ljava/lang/Object;)Z"⟩ : MethodName)) (z := (⟨"java/lang/String", "equals", "(Ljava/lang/Object;)Z"⟩ : MethodName)) hown (mvT hZ (wi hw 58 rfl)) (mvT hZ (wi hw 36 rfl)) (notFace_of_selects (args := #[]) (mvT hZ (wi hw 38 rfl))) (mvT hZ (wi hw 38 rfl)) (mvT hZ (wi hw 37 rfl)) (by decide) (StrChars.Road.eqW (W := 0) hZ (fun d hd => hw d (own_w_eqW d hd)) (kI := 4) (wi hw 29 rfl) (sEm0.ext O101.2) (sVm0.ext O101.2) (sCm0.ext O101.2) (sKm0.ext O101.2) scdm0 (own_up _ shpm0) shlm0 (sEm0.ext O101.2) (sVm0.ext O101.2) (sCm0.ext O101.2) (sKm0.ext O101.2) scdm0 (own_up _ shpm0) shlm0 (S_CS.ext O101.2) hG1 (by decide) (by decide)) q103a q103c (g := (mkF m 25 #[.val (.ref s0), .val (.ref bv101), .val (.int (3 : Int32)), .val (.int (0 : Int32)), .val (.ref w0)] [(.ref s0), (.ref s0)])) rfl (by rw [hml]; rfl) (Steps.refl _) (argsL := [(.ref s0)]) (rest := []) (lenOf pd_1 rfl) rfl (by show 2 * 0 + _ ≤ _; exact Nat.le_of_eq rfl) (hb hby d5_25) (fun _ _ => ⟨rfl, e102, (by decide : 1 + 0 ≤ _), (by decide : 3 + 0 ≤ _)⟩)
  dsimp only [Pt.U, Pt.locs, Pt.cells, Pt.slots] at X103 l103 y103 z103 st103 hQ103
  subst l103 y103 z103
  obtain ⟨hv103, rfl, hh103⟩ := hQ103
  obtain rfl := (hv103.resolve_right (fun q => q.2 ((by decide) : ([(97 : Int32), (114 : Int32), (114 : Int32), (97 : Int32), (121 : Int32)] : List Int32) = ([(97 : Int32), (114 : Int32), (114 : Int32), (97 : Int32), (121 : Int32)] : List Int32)))).1
  have N103q : Fr n0 ([] : List Loc) := Fr.nil n0
  have e103 : T103.heap = h101 := hh103
  have N103 := Fr.app N101 N103q
  obtain ⟨fs, hr, hrun, hended, hW, hsame⟩ := X103.leave (v := some (.ref w0)) (fun h => by rw [Bd.returns] at h; cases h)
  refine ⟨_, _, pre0 _ ?_, hrun, hended, _, _, rfl, ?_, ⟨_, rfl⟩, hW, hsame.mono (by decide) (by decide)⟩
  · show Steps p.tables e below (s₁.setTop (mkF m 0 #[.val (.ref s0), .unset, .unset, .unset, .unset] [])) _
    refine st101 _ ?_
    show Steps p.tables e below (T101.setTop (mkF m 3 #[.val (.ref s0), .unset, .unset, .unset, .unset] [(.ref bv101)])) _
    refine XS.astoreN X101.here hx rfl (hb hby d5_3) rfl rfl (l' := #[.val (.ref s0), .val (.ref bv101), .unset, .unset, .unset]) rfl ?_
    show Steps p.tables e below (T101.setTop (mkF m 4 #[.val (.ref s0), .val (.ref bv101), .unset, .unset, .unset] [])) _
    refine XS.aloadN X101.here hx rfl (hb hby d5_4) rfl rfl ?_
    show Steps p.tables e below (T101.setTop (mkF m 5 #[.val (.ref s0), .val (.ref bv101), .unset, .unset, .unset] [(.ref bv101)])) _
    refine X101.arraylength hx (by rw [e101]; exact Ar_bv101_7.1) (State.isArrayOf_alike hZ.alike Ar_bv101_7.2.1) (g := (mkF m 5 #[.val (.ref s0), .val (.ref bv101), .unset, .unset, .unset] [(.ref bv101)])) rfl rfl (hb hby d5_5) _ ?_
    rw [len_of S_bv101_7 N_bv101_7]
    show Steps p.tables e below (T101.setTop (mkF m 6 #[.val (.ref s0), .val (.ref bv101), .unset, .unset, .unset] [(.int (3 : Int32))])) _
    refine XS.istoreN X101.here hx rfl (hb hby d5_6) rfl (l' := #[.val (.ref s0), .val (.ref bv101), .val (.int (3 : Int32)), .unset, .unset]) rfl ?_
    show Steps p.tables e below (T101.setTop (mkF m 7 #[.val (.ref s0), .val (.ref bv101), .val (.int (3 : Int32)), .unset, .unset] [])) _
    refine XS.iconst X101.here hx rfl (hb hby d5_7) ?_
    show Steps p.tables e below (T101.setTop (mkF m 8 #[.val (.ref s0), .val (.ref bv101), .val (.int (3 : Int32)), .unset, .unset] [(.int (0 : Int32))])) _
    refine XS.istoreN X101.here hx rfl (hb hby d5_8) rfl (l' := #[.val (.ref s0), .val (.ref bv101), .val (.int (3 : Int32)), .val (.int (0 : Int32)), .unset]) rfl ?_
    show Steps p.tables e below (T101.setTop (mkF m 9 #[.val (.ref s0), .val (.ref bv101), .val (.int (3 : Int32)), .val (.int (0 : Int32)), .unset] [])) _
    refine XS.iloadN X101.here hx rfl (hb hby d5_9) rfl ?_
    show Steps p.tables e below (T101.setTop (mkF m 10 #[.val (.ref s0), .val (.ref bv101), .val (.int (3 : Int32)), .val (.int (0 : Int32)), .unset] [(.int (0 : Int32))])) _
    refine XS.iloadN X101.here hx rfl (hb hby d5_10) rfl ?_
    show Steps p.tables e below (T101.setTop (mkF m 11 #[.val (.ref s0), .val (.ref bv101), .val (.int (3 : Int32)), .val (.int (0 : Int32)), .unset] [(.int (3 : Int32)), (.int (0 : Int32))])) _
    refine XS.icmpNo X101.here hx rfl (hb hby d5_11) rfl (tlt (by decide : (0 : Int32) < (3 : Int32))).2.1 ?_
    show Steps p.tables e below (T101.setTop (mkF m 14 #[.val (.ref s0), .val (.ref bv101), .val (.int (3 : Int32)), .val (.int (0 : Int32)), .unset] [])) _
    refine XS.aloadN X101.here hx rfl (hb hby d5_14) rfl rfl ?_
    show Steps p.tables e below (T101.setTop (mkF m 15 #[.val (.ref s0), .val (.ref bv101), .val (.int (3 : Int32)), .val (.int (0 : Int32)), .unset] [(.ref bv101)])) _
    refine XS.iloadN X101.here hx rfl (hb hby d5_15) rfl ?_
    show Steps p.tables e below (T101.setTop (mkF m 16 #[.val (.ref s0), .val (.ref bv101), .val (.int (3 : Int32)), .val (.int (0 : Int32)), .unset] [(.int (0 : Int32)), (.ref bv101)])) _
    refine X101.aaload hx (j := (0 : Int32)) (v := (.ref w0)) (by rw [e101]; exact Ar_bv101_26.1) (State.isArrayOf_alike hZ.alike Ar_bv101_26.2.1) rfl Ar_bv101_26.2.2 hinbv101_26 hatbv101_26 (g := (mkF m 16 #[.val (.ref s0), .val (.ref bv101), .val (.int (3 : Int32)), .val (.int (0 : Int32)), .unset] [(.int (0 : Int32)), (.ref bv101)])) rfl rfl (hb hby d5_16) _ ?_
    show Steps p.tables e below (T101.setTop (mkF m 17 #[.val (.ref s0), .val (.ref bv101), .val (.int (3 : Int32)), .val (.int (0 : Int32)), .unset] [(.ref w0)])) _
    refine XS.astore X101.here hx rfl (hb hby d5_17) rfl rfl (l' := #[.val (.ref s0), .val (.ref bv101), .val (.int (3 : Int32)), .val (.int (0 : Int32)), .val (.ref w0)]) rfl ?_
    show Steps p.tables e below (T101.setTop (mkF m 19 #[.val (.ref s0), .val (.ref bv101), .val (.int (3 : Int32)), .val (.int (0 : Int32)), .val (.ref w0)] [])) _
    refine XS.aload X101.here hx rfl (hb hby d5_19) rfl rfl ?_
    show Steps p.tables e below (T101.setTop (mkF m 21 #[.val (.ref s0), .val (.ref bv101), .val (.int (3 : Int32)), .val (.int (0 : Int32)), .val (.ref w0)] [(.ref w0)])) _
    refine st102 _ ?_
    show Steps p.tables e below (T102.setTop (mkF m 24 #[.val (.ref s0), .val (.ref bv101), .val (.int (3 : Int32)), .val (.int (0 : Int32)), .val (.ref w0)] [(.ref s0)])) _
    refine XS.aloadN X102.here hx rfl (hb hby d5_24) rfl rfl ?_
    show Steps p.tables e below (T102.setTop (mkF m 25 #[.val (.ref s0), .val (.ref bv101), .val (.int (3 : Int32)), .val (.int (0 : Int32)), .val (.ref w0)] [(.ref s0), (.ref s0)])) _
    refine st103.trans ?_
    show Steps p.tables e below (T103.setTop (mkF m 28 #[.val (.ref s0), .val (.ref bv101), .val (.int (3 : Int32)), .val (.int (0 : Int32)), .val (.ref w0)] [(.int (1 : Int32))])) _
    refine XS.ifNo X103.here hx rfl (hb hby d5_28) rfl ((if0 _ _).trans (feq (by decide : ¬ ((1 : Int32) = (0 : Int32)))).1) ?_
    show Steps p.tables e below (T103.setTop (mkF m 31 #[.val (.ref s0), .val (.ref bv101), .val (.int (3 : Int32)), .val (.int (0 : Int32)), .val (.ref w0)] [])) _
    refine XS.aload X103.here hx rfl (hb hby d5_31) rfl rfl ?_
    show Steps p.tables e below (T103.setTop (mkF m 33 #[.val (.ref s0), .val (.ref bv101), .val (.int (3 : Int32)), .val (.int (0 : Int32)), .val (.ref w0)] [(.ref w0)])) _
    jvm_step X103.here [X103.here.top, hx, (hb hby d5_33), X103.method', Bd.returns, Value.isRef, FieldType.isReference]
    first | (intro acts; rw [hr _ acts rfl rfl rfl]) | rw [hr _ _ rfl rfl rfl]
    exact Steps.refl _
  · show Q7 (.ref w0) h0 n0 _ T103.heap _
    rw [e103]
    exact ⟨rfl, N103, KK101⟩
theorem d5_34 : decode prog_40_method_5_code 34 = .ok (.iinc 3 1, 3) := by decide +kernel
theorem d5_37 : decode prog_40_method_5_code 37 = .ok (.goto (-28), 3) := by decide +kernel
set_option maxRecDepth 65536 in
set_option maxHeartbeats 40000000 in
theorem rm7_1 (l : Launch) (Z : State) (a0 : Array Value) (hw : ∀ d ∈ tables_1, d.before a0 Z = true) (ws : List Jvm.Cond) (G1 : Int32) (kV : ClassId) (wV w0 w1 w2 : Addr) (s0 s1 s2 : Addr) (h0 : Heap) (n0 : Nat) (O0 : Old Z n0 h0) (S_CS : Sta Z Z.heap "java/lang/String" "COMPACT_STRINGS" "Z" (.int G1)) (hG1 : ¬ (G1 = (0 : Int32))) (S_V : Sta Z Z.heap "dev/tryst/tool/Workload$QueueKind" "$VALUES" "[Ldev/tryst/tool/Workload$QueueKind;" (.ref wV)) (A_V : Arv Z Z.heap wV kV (.object "dev/tryst/tool/Workload$QueueKind") (3 : Int32) [(.ref w0), (.ref w1), (.ref w2)] .null) (E_V : Exa Z Z.heap wV "[Ldev/tryst/tool/Workload$QueueKind;") (M0 : Fld Z Z.heap w0 "dev/tryst/tool/Workload$QueueKind" "mWord" "Ljava/lang/String;" (.ref s0)) (M1 : Fld Z Z.heap w1 "dev/tryst/tool/Workload$QueueKind" "mWord" "Ljava/lang/String;" (.ref s1)) (M2 : Fld Z Z.heap w2 "dev/tryst/tool/Workload$QueueKind" "mWord" "Ljava/lang/String;" (.ref s2)) (T0 : Str Z Z.heap s0 ([(97 : Int32), (114 : Int32), (114 : Int32), (97 : Int32), (121 : Int32)] : List Int32)) (T1 : Str Z Z.heap s1 ([(108 : Int32), (105 : Int32), (110 : Int32), (107 : Int32), (101 : Int32), (100 : Int32)] : List Int32)) (T2 : Str Z Z.heap s2 ([(108 : Int32), (105 : Int32), (110 : Int32), (107 : Int32), (101 : Int32), (100 : Int32), (45 : Int32), (100 : Int32), (101 : Int32), (113 : Int32), (117 : Int32), (101 : Int32)] : List Int32)) :
    MetFree l (⟨"dev/tryst/tool/Workload$QueueKind", "of", "(Ljava/lang/String;)Ldev/tryst/tool/Workload$QueueKind;"⟩ : MethodName) (head1 (Jvm.Cond.code (⟨"dev/tryst/tool/Workload$QueueKind", "of", "(Ljava/lang/String;)Ldev/tryst/tool/Workload$QueueKind;"⟩ : MethodName) prog_40_method_5_code 5 (some (.object "dev/tryst/tool/Workload$QueueKind")) :: ws) ({ frames := 2, cells := 1, slots := 3, locals := 28 } : Room)) (fun a_ U => a_ = #[(.ref s1)] ∧ Z.Warmed39 U.vm ∧ U.heap = h0) (fun _ _ _ _ _ => True) (fun _ U o U' => ∃ v L, o = .returned v ∧ Q7 (.ref w1) h0 n0 v U'.heap L ∧ FrameEnd U o U' L ({ frames := 2, cells := 1, slots := 3, locals := 28 } : Room).cells ({ frames := 2, cells := 1, slots := 3, locals := 28 } : Room).slots) := by
  refine MetFree.of_bodySF (plainFor_of_name pn_0) hisR ?_
  intro p e s m args below meth c s₁ Bd hml0 hP hK
  obtain ⟨rfl, hZ, hh⟩ := hP
  have hx := Bd.exec
  have hby := Bd.bytes
  have hml : c.maxLocals = 5 := hml0
  have hown : s.vm.findClass "dev/tryst/tool/Workload$QueueKind" = some m.cls := findClass_of_methodNamed Bd.named
  have hnm := (name_of_methodNamed Bd.named Bd.method).1
  have X0 : Stand p l e ({ frames := 2, cells := 1, slots := 3, locals := 28 } : Room) s m #[(.ref s1)] below meth c s₁ [] 0 0 := Stand.of_body Bd
  have e0 : s₁.heap = h0 := by rw [← hh, Bd.state]; rfl
  have N0 := Fr.nil n0
  have pre0 : ∀ tg, Steps p.tables e below (s₁.setTop (mkF m 0 #[.val (.ref s1), .unset, .unset, .unset, .unset] [])) tg → Steps p.tables e below (s₁.setTop (entryFrame m #[(.ref s1)] 5)) tg := fun tg kq => castTop (ef_R_5 m s1) kq
  obtain ⟨tm0, kbm0, Nm0, vsm0, sEm0, sVm0, sCm0, sKm0, scdm0, shpm0, shlm0⟩ := id T0
  obtain ⟨tm1, kbm1, Nm1, vsm1, sEm1, sVm1, sCm1, sKm1, scdm1, shpm1, shlm1⟩ := id T1
  obtain ⟨tm2, kbm2, Nm2, vsm2, sEm2, sVm2, sCm2, sKm2, scdm2, shpm2, shlm2⟩ := id T2
  obtain ⟨_, _, ⟨T101, L101, k101, n101⟩, -, X101, ⟨Lc101, hQ101, l101, y101, z101⟩, st101⟩ := Jvm.LawKit.callS X0 hx (y := (⟨"dev/tryst/tool/Workload$QueueKind", "values", "()[Ldev/tryst/tool/Workload$QueueKind;"⟩ : MethodName)) hown (mvT hZ (wi hw 4 rfl)) (mvT hZ (wi hw 5 rfl)) (mvT hZ (wi hw 2 rfl)) (mvT hZ (wi hw 6 rfl)) (by decide) (backOf (W := 0) (rm8 l Z a0 hw [] kV wV w0 w1 w2 h0 n0 O0 S_V A_V E_V) hZ (wi hw 6 rfl) (wi hw 2 rfl) (by decide) (by decide)) (g := (mkF m 0 #[.val (.ref s1), .unset, .unset, .unset, .unset] [])) rfl (by rw [hml]; rfl) (argsL := []) (rest := []) (lenOf pd_0 rfl) rfl (by show 2 * 0 + _ ≤ _; exact Nat.le_of_eq rfl) (hb hby d5_0) (fun _ _ => ⟨rfl, e0, (by decide : 0 + 1 ≤ _), (by decide : 0 + 3 ≤ _)⟩)
  dsimp only [Pt.U, Pt.locs, Pt.cells, Pt.slots] at X101 l101 y101 z101 st101 hQ101
  subst l101 y101 z101
  obtain ⟨bv101, rfl, N101q, K101, szv101, Av101⟩ := hQ101
  obtain ⟨h101, e101⟩ : ∃ z, T101.heap = z := ⟨_, rfl⟩
  rw [e101] at K101 Av101
  have g_bv101 : n0 ≤ bv101 := Nat.le_trans (O0.1 ▸ O0.2.1) szv101
  have sz_bv101 : h0.size ≤ bv101 := Nat.le_trans (Nat.le_refl _) szv101
  have O101 := O0.keep K101 all0
  have KK101 : Keep h0 h101 [] := (Keep.refl h0 []).trans K101 all0
  have N101 := Fr.app N0 N101q
  obtain ⟨cl_bv101_7, Ar_bv101_7, -, S_bv101_7, N_bv101_7, -, -⟩ := id (Av101)
  obtain ⟨cl_bv101_26, Ar_bv101_26, q_bv101_26, S_bv101_26, N_bv101_26, H_bv101_26, G_bv101_26⟩ := id (Av101)
  have hinbv101_26 : ¬ ((0 : Int32) < 0 ∨ cl_bv101_26.slots.size ≤ ((0 : Int32)).toNatClampNeg) := inb_of S_bv101_26 ⟨by decide, by decide⟩
  have hatbv101_26 : cl_bv101_26.slots[((0 : Int32)).toNatClampNeg]? = some (.ref w0) := H_bv101_26.at hinbv101_26 rfl
  obtain ⟨T102, X102, e102, st102⟩ := getF X101 hx hZ hown (host := "") (Or.inl (wi hw 24 rfl)) Via.refl e101 (M0.ext O101.2) (g := (mkF m 21 #[.val (.ref s1), .val (.ref bv101), .val (.int (3 : Int32)), .val (.int (0 : Int32)), .val (.ref w0)] [(.ref w0)])) rfl rfl (hb hby d5_21)
  obtain ⟨cq103, kq103, q103a, q103b, q103c⟩ := isOf hZ e102 (sEm0.ext O101.2)
  obtain ⟨_, _, ⟨T103, L103, k103, n103⟩, -, X103, ⟨Lc103, hQ103, l103, y103, z103⟩, st103⟩ := X102.virtualBack hx (y := (⟨"java/lang/String", "equals", "(Ljava/lang/Object;)Z"⟩ : MethodName)) (z := (⟨"java/lang/String", "equals", "(Ljava/lang/Object;)Z"⟩ : MethodName)) hown (mvT hZ (wi hw 58 rfl)) (mvT hZ (wi hw 36 rfl)) (notFace_of_selects (args := #[]) (mvT hZ (wi hw 38 rfl))) (mvT hZ (wi hw 38 rfl)) (mvT hZ (wi hw 37 rfl)) (by decide) (StrChars.Road.eqW (W := 0) hZ (fun d hd => hw d (own_w_eqW d hd)) (kI := 4) (wi hw 29 rfl) (sEm0.ext O101.2) (sVm0.ext O101.2) (sCm0.ext O101.2) (sKm0.ext O101.2) scdm0 (own_up _ shpm0) shlm0 (sEm1.ext O101.2) (sVm1.ext O101.2) (sCm1.ext O101.2) (sKm1.ext O101.2) scdm1 (own_up _ shpm1) shlm1 (S_CS.ext O101.2) hG1 (by decide) (by decide)) q103a q103c (g := (mkF m 25 #[.val (.ref s1), .val (.ref bv101), .val (.int (3 : Int32)), .val (.int (0 : Int32)), .val (.ref w0)] [(.ref s1), (.ref s0)])) rfl (by rw [hml]; rfl) (Steps.refl _) (argsL := [(.ref s1)]) (rest := []) (lenOf pd_1 rfl) rfl (by show 2 * 0 + _ ≤ _; exact Nat.le_of_eq rfl) (hb hby d5_25) (fun _ _ => ⟨rfl, e102, (by decide : 1 + 0 ≤ _), (by decide : 3 + 0 ≤ _)⟩)
  dsimp only [Pt.U, Pt.locs, Pt.cells, Pt.slots] at X103 l103 y103 z103 st103 hQ103
  subst l103 y103 z103
  obtain ⟨hv103, rfl, hh103⟩ := hQ103
  obtain rfl := (hv103.resolve_left (fun q => ((by decide) : ¬ ([(97 : Int32), (114 : Int32), (114 : Int32), (97 : Int32), (121 : Int32)] : List Int32) = ([(108 : Int32), (105 : Int32), (110 : Int32), (107 : Int32), (101 : Int32), (100 : Int32)] : List Int32)) q.2)).1
  have N103q : Fr n0 ([] : List Loc) := Fr.nil n0
  have e103 : T103.heap = h101 := hh103
  have N103 := Fr.app N101 N103q
  obtain ⟨cl_bv101_54, Ar_bv101_54, q_bv101_54, S_bv101_54, N_bv101_54, H_bv101_54, G_bv101_54⟩ := id (Av101)
  have hinbv101_54 : ¬ ((1 : Int32) < 0 ∨ cl_bv101_54.slots.size ≤ ((1 : Int32)).toNatClampNeg) := inb_of S_bv101_54 ⟨by decide, by decide⟩
  have hatbv101_54 : cl_bv101_54.slots[((1 : Int32)).toNatClampNeg]? = some (.ref w1) := H_bv101_54.at hinbv101_54 rfl
  obtain ⟨T104, X104, e104, st104⟩ := getF X103 hx hZ hown (host := "") (Or.inl (wi hw 24 rfl)) Via.refl e103 (M1.ext O101.2) (g := (mkF m 21 #[.val (.ref s1), .val (.ref bv101), .val (.int (3 : Int32)), .val (.int (1 : Int32)), .val (.ref w1)] [(.ref w1)])) rfl rfl (hb hby d5_21)
  obtain ⟨cq105, kq105, q105a, q105b, q105c⟩ := isOf hZ e104 (sEm1.ext O101.2)
  obtain ⟨_, _, ⟨T105, L105, k105, n105⟩, -, X105, ⟨Lc105, hQ105, l105, y105, z105⟩, st105⟩ := X104.virtualBack hx (y := (⟨"java/lang/String", "equals", "(Ljava/lang/Object;)Z"⟩ : MethodName)) (z := (⟨"java/lang/String", "equals", "(Ljava/lang/Object;)Z"⟩ : MethodName)) hown (mvT hZ (wi hw 58 rfl)) (mvT hZ (wi hw 36 rfl)) (notFace_of_selects (args := #[]) (mvT hZ (wi hw 38 rfl))) (mvT hZ (wi hw 38 rfl)) (mvT hZ (wi hw 37 rfl)) (by decide) (StrChars.Road.eqW (W := 0) hZ (fun d hd => hw d (own_w_eqW d hd)) (kI := 4) (wi hw 29 rfl) (sEm1.ext O101.2) (sVm1.ext O101.2) (sCm1.ext O101.2) (sKm1.ext O101.2) scdm1 (own_up _ shpm1) shlm1 (sEm1.ext O101.2) (sVm1.ext O101.2) (sCm1.ext O101.2) (sKm1.ext O101.2) scdm1 (own_up _ shpm1) shlm1 (S_CS.ext O101.2) hG1 (by decide) (by decide)) q105a q105c (g := (mkF m 25 #[.val (.ref s1), .val (.ref bv101), .val (.int (3 : Int32)), .val (.int (1 : Int32)), .val (.ref w1)] [(.ref s1), (.ref s1)])) rfl (by rw [hml]; rfl) (Steps.refl _) (argsL := [(.ref s1)]) (rest := []) (lenOf pd_1 rfl) rfl (by show 2 * 0 + _ ≤ _; exact Nat.le_of_eq rfl) (hb hby d5_25) (fun _ _ => ⟨rfl, e104, (by decide : 1 + 0 ≤ _), (by decide : 3 + 0 ≤ _)⟩)
  dsimp only [Pt.U, Pt.locs, Pt.cells, Pt.slots] at X105 l105 y105 z105 st105 hQ105
  subst l105 y105 z105
  obtain ⟨hv105, rfl, hh105⟩ := hQ105
  obtain rfl := (hv105.resolve_right (fun q => q.2 ((by decide) : ([(108 : Int32), (105 : Int32), (110 : Int32), (107 : Int32), (101 : Int32), (100 : Int32)] : List Int32) = ([(108 : Int32), (105 : Int32), (110 : Int32), (107 : Int32), (101 : Int32), (100 : Int32)] : List Int32)))).1
  have N105q : Fr n0 ([] : List Loc) := Fr.nil n0
  have e105 : T105.heap = h101 := hh105
  have N105 := Fr.app N103 N105q
  obtain ⟨fs, hr, hrun, hended, hW, hsame⟩ := X105.leave (v := some (.ref w1)) (fun h => by rw [Bd.returns] at h; cases h)
  refine ⟨_, _, pre0 _ ?_, hrun, hended, _, _, rfl, ?_, ⟨_, rfl⟩, hW, hsame.mono (by decide) (by decide)⟩
  · show Steps p.tables e below (s₁.setTop (mkF m 0 #[.val (.ref s1), .unset, .unset, .unset, .unset] [])) _
    refine st101 _ ?_
    show Steps p.tables e below (T101.setTop (mkF m 3 #[.val (.ref s1), .unset, .unset, .unset, .unset] [(.ref bv101)])) _
    refine XS.astoreN X101.here hx rfl (hb hby d5_3) rfl rfl (l' := #[.val (.ref s1), .val (.ref bv101), .unset, .unset, .unset]) rfl ?_
    show Steps p.tables e below (T101.setTop (mkF m 4 #[.val (.ref s1), .val (.ref bv101), .unset, .unset, .unset] [])) _
    refine XS.aloadN X101.here hx rfl (hb hby d5_4) rfl rfl ?_
    show Steps p.tables e below (T101.setTop (mkF m 5 #[.val (.ref s1), .val (.ref bv101), .unset, .unset, .unset] [(.ref bv101)])) _
    refine X101.arraylength hx (by rw [e101]; exact Ar_bv101_7.1) (State.isArrayOf_alike hZ.alike Ar_bv101_7.2.1) (g := (mkF m 5 #[.val (.ref s1), .val (.ref bv101), .unset, .unset, .unset] [(.ref bv101)])) rfl rfl (hb hby d5_5) _ ?_
    rw [len_of S_bv101_7 N_bv101_7]
    show Steps p.tables e below (T101.setTop (mkF m 6 #[.val (.ref s1), .val (.ref bv101), .unset, .unset, .unset] [(.int (3 : Int32))])) _
    refine XS.istoreN X101.here hx rfl (hb hby d5_6) rfl (l' := #[.val (.ref s1), .val (.ref bv101), .val (.int (3 : Int32)), .unset, .unset]) rfl ?_
    show Steps p.tables e below (T101.setTop (mkF m 7 #[.val (.ref s1), .val (.ref bv101), .val (.int (3 : Int32)), .unset, .unset] [])) _
    refine XS.iconst X101.here hx rfl (hb hby d5_7) ?_
    show Steps p.tables e below (T101.setTop (mkF m 8 #[.val (.ref s1), .val (.ref bv101), .val (.int (3 : Int32)), .unset, .unset] [(.int (0 : Int32))])) _
    refine XS.istoreN X101.here hx rfl (hb hby d5_8) rfl (l' := #[.val (.ref s1), .val (.ref bv101), .val (.int (3 : Int32)), .val (.int (0 : Int32)), .unset]) rfl ?_
    show Steps p.tables e below (T101.setTop (mkF m 9 #[.val (.ref s1), .val (.ref bv101), .val (.int (3 : Int32)), .val (.int (0 : Int32)), .unset] [])) _
    refine XS.iloadN X101.here hx rfl (hb hby d5_9) rfl ?_
    show Steps p.tables e below (T101.setTop (mkF m 10 #[.val (.ref s1), .val (.ref bv101), .val (.int (3 : Int32)), .val (.int (0 : Int32)), .unset] [(.int (0 : Int32))])) _
    refine XS.iloadN X101.here hx rfl (hb hby d5_10) rfl ?_
    show Steps p.tables e below (T101.setTop (mkF m 11 #[.val (.ref s1), .val (.ref bv101), .val (.int (3 : Int32)), .val (.int (0 : Int32)), .unset] [(.int (3 : Int32)), (.int (0 : Int32))])) _
    refine XS.icmpNo X101.here hx rfl (hb hby d5_11) rfl (tlt (by decide : (0 : Int32) < (3 : Int32))).2.1 ?_
    show Steps p.tables e below (T101.setTop (mkF m 14 #[.val (.ref s1), .val (.ref bv101), .val (.int (3 : Int32)), .val (.int (0 : Int32)), .unset] [])) _
    refine XS.aloadN X101.here hx rfl (hb hby d5_14) rfl rfl ?_
    show Steps p.tables e below (T101.setTop (mkF m 15 #[.val (.ref s1), .val (.ref bv101), .val (.int (3 : Int32)), .val (.int (0 : Int32)), .unset] [(.ref bv101)])) _
    refine XS.iloadN X101.here hx rfl (hb hby d5_15) rfl ?_
    show Steps p.tables e below (T101.setTop (mkF m 16 #[.val (.ref s1), .val (.ref bv101), .val (.int (3 : Int32)), .val (.int (0 : Int32)), .unset] [(.int (0 : Int32)), (.ref bv101)])) _
    refine X101.aaload hx (j := (0 : Int32)) (v := (.ref w0)) (by rw [e101]; exact Ar_bv101_26.1) (State.isArrayOf_alike hZ.alike Ar_bv101_26.2.1) rfl Ar_bv101_26.2.2 hinbv101_26 hatbv101_26 (g := (mkF m 16 #[.val (.ref s1), .val (.ref bv101), .val (.int (3 : Int32)), .val (.int (0 : Int32)), .unset] [(.int (0 : Int32)), (.ref bv101)])) rfl rfl (hb hby d5_16) _ ?_
    show Steps p.tables e below (T101.setTop (mkF m 17 #[.val (.ref s1), .val (.ref bv101), .val (.int (3 : Int32)), .val (.int (0 : Int32)), .unset] [(.ref w0)])) _
    refine XS.astore X101.here hx rfl (hb hby d5_17) rfl rfl (l' := #[.val (.ref s1), .val (.ref bv101), .val (.int (3 : Int32)), .val (.int (0 : Int32)), .val (.ref w0)]) rfl ?_
    show Steps p.tables e below (T101.setTop (mkF m 19 #[.val (.ref s1), .val (.ref bv101), .val (.int (3 : Int32)), .val (.int (0 : Int32)), .val (.ref w0)] [])) _
    refine XS.aload X101.here hx rfl (hb hby d5_19) rfl rfl ?_
    show Steps p.tables e below (T101.setTop (mkF m 21 #[.val (.ref s1), .val (.ref bv101), .val (.int (3 : Int32)), .val (.int (0 : Int32)), .val (.ref w0)] [(.ref w0)])) _
    refine st102 _ ?_
    show Steps p.tables e below (T102.setTop (mkF m 24 #[.val (.ref s1), .val (.ref bv101), .val (.int (3 : Int32)), .val (.int (0 : Int32)), .val (.ref w0)] [(.ref s0)])) _
    refine XS.aloadN X102.here hx rfl (hb hby d5_24) rfl rfl ?_
    show Steps p.tables e below (T102.setTop (mkF m 25 #[.val (.ref s1), .val (.ref bv101), .val (.int (3 : Int32)), .val (.int (0 : Int32)), .val (.ref w0)] [(.ref s1), (.ref s0)])) _
    refine st103.trans ?_
    show Steps p.tables e below (T103.setTop (mkF m 28 #[.val (.ref s1), .val (.ref bv101), .val (.int (3 : Int32)), .val (.int (0 : Int32)), .val (.ref w0)] [(.int (0 : Int32))])) _
    refine XS.ifYes X103.here hx rfl (pc0 := 28) (pc' := 34) rfl (hb hby d5_28) rfl ((if0 _ _).trans (teq (by decide : (0 : Int32) = (0 : Int32))).1) (by decide) (by decide) ?_
    show Steps p.tables e below (T103.setTop (mkF m 34 #[.val (.ref s1), .val (.ref bv101), .val (.int (3 : Int32)), .val (.int (0 : Int32)), .val (.ref w0)] [])) _
    refine XS.iinc X103.here hx rfl (hb hby d5_34) rfl (l' := #[.val (.ref s1), .val (.ref bv101), .val (.int (3 : Int32)), .val (.int (1 : Int32)), .val (.ref w0)]) rfl ?_
    show Steps p.tables e below (T103.setTop (mkF m 37 #[.val (.ref s1), .val (.ref bv101), .val (.int (3 : Int32)), .val (.int (1 : Int32)), .val (.ref w0)] [])) _
    refine XS.goto X103.here hx rfl (pc0 := 37) (pc' := 9) rfl (hb hby d5_37) (by decide) (by decide) ?_
    show Steps p.tables e below (T103.setTop (mkF m 9 #[.val (.ref s1), .val (.ref bv101), .val (.int (3 : Int32)), .val (.int (1 : Int32)), .val (.ref w0)] [])) _
    refine XS.iloadN X103.here hx rfl (hb hby d5_9) rfl ?_
    show Steps p.tables e below (T103.setTop (mkF m 10 #[.val (.ref s1), .val (.ref bv101), .val (.int (3 : Int32)), .val (.int (1 : Int32)), .val (.ref w0)] [(.int (1 : Int32))])) _
    refine XS.iloadN X103.here hx rfl (hb hby d5_10) rfl ?_
    show Steps p.tables e below (T103.setTop (mkF m 11 #[.val (.ref s1), .val (.ref bv101), .val (.int (3 : Int32)), .val (.int (1 : Int32)), .val (.ref w0)] [(.int (3 : Int32)), (.int (1 : Int32))])) _
    refine XS.icmpNo X103.here hx rfl (hb hby d5_11) rfl (tlt (by decide : (1 : Int32) < (3 : Int32))).2.1 ?_
    show Steps p.tables e below (T103.setTop (mkF m 14 #[.val (.ref s1), .val (.ref bv101), .val (.int (3 : Int32)), .val (.int (1 : Int32)), .val (.ref w0)] [])) _
    refine XS.aloadN X103.here hx rfl (hb hby d5_14) rfl rfl ?_
    show Steps p.tables e below (T103.setTop (mkF m 15 #[.val (.ref s1), .val (.ref bv101), .val (.int (3 : Int32)), .val (.int (1 : Int32)), .val (.ref w0)] [(.ref bv101)])) _
    refine XS.iloadN X103.here hx rfl (hb hby d5_15) rfl ?_
    show Steps p.tables e below (T103.setTop (mkF m 16 #[.val (.ref s1), .val (.ref bv101), .val (.int (3 : Int32)), .val (.int (1 : Int32)), .val (.ref w0)] [(.int (1 : Int32)), (.ref bv101)])) _
    refine X103.aaload hx (j := (1 : Int32)) (v := (.ref w1)) (by rw [e103]; exact Ar_bv101_54.1) (State.isArrayOf_alike hZ.alike Ar_bv101_54.2.1) rfl Ar_bv101_54.2.2 hinbv101_54 hatbv101_54 (g := (mkF m 16 #[.val (.ref s1), .val (.ref bv101), .val (.int (3 : Int32)), .val (.int (1 : Int32)), .val (.ref w0)] [(.int (1 : Int32)), (.ref bv101)])) rfl rfl (hb hby d5_16) _ ?_
    show Steps p.tables e below (T103.setTop (mkF m 17 #[.val (.ref s1), .val (.ref bv101), .val (.int (3 : Int32)), .val (.int (1 : Int32)), .val (.ref w0)] [(.ref w1)])) _
    refine XS.astore X103.here hx rfl (hb hby d5_17) rfl rfl (l' := #[.val (.ref s1), .val (.ref bv101), .val (.int (3 : Int32)), .val (.int (1 : Int32)), .val (.ref w1)]) rfl ?_
    show Steps p.tables e below (T103.setTop (mkF m 19 #[.val (.ref s1), .val (.ref bv101), .val (.int (3 : Int32)), .val (.int (1 : Int32)), .val (.ref w1)] [])) _
    refine XS.aload X103.here hx rfl (hb hby d5_19) rfl rfl ?_
    show Steps p.tables e below (T103.setTop (mkF m 21 #[.val (.ref s1), .val (.ref bv101), .val (.int (3 : Int32)), .val (.int (1 : Int32)), .val (.ref w1)] [(.ref w1)])) _
    refine st104 _ ?_
    show Steps p.tables e below (T104.setTop (mkF m 24 #[.val (.ref s1), .val (.ref bv101), .val (.int (3 : Int32)), .val (.int (1 : Int32)), .val (.ref w1)] [(.ref s1)])) _
    refine XS.aloadN X104.here hx rfl (hb hby d5_24) rfl rfl ?_
    show Steps p.tables e below (T104.setTop (mkF m 25 #[.val (.ref s1), .val (.ref bv101), .val (.int (3 : Int32)), .val (.int (1 : Int32)), .val (.ref w1)] [(.ref s1), (.ref s1)])) _
    refine st105.trans ?_
    show Steps p.tables e below (T105.setTop (mkF m 28 #[.val (.ref s1), .val (.ref bv101), .val (.int (3 : Int32)), .val (.int (1 : Int32)), .val (.ref w1)] [(.int (1 : Int32))])) _
    refine XS.ifNo X105.here hx rfl (hb hby d5_28) rfl ((if0 _ _).trans (feq (by decide : ¬ ((1 : Int32) = (0 : Int32)))).1) ?_
    show Steps p.tables e below (T105.setTop (mkF m 31 #[.val (.ref s1), .val (.ref bv101), .val (.int (3 : Int32)), .val (.int (1 : Int32)), .val (.ref w1)] [])) _
    refine XS.aload X105.here hx rfl (hb hby d5_31) rfl rfl ?_
    show Steps p.tables e below (T105.setTop (mkF m 33 #[.val (.ref s1), .val (.ref bv101), .val (.int (3 : Int32)), .val (.int (1 : Int32)), .val (.ref w1)] [(.ref w1)])) _
    jvm_step X105.here [X105.here.top, hx, (hb hby d5_33), X105.method', Bd.returns, Value.isRef, FieldType.isReference]
    first | (intro acts; rw [hr _ acts rfl rfl rfl]) | rw [hr _ _ rfl rfl rfl]
    exact Steps.refl _
  · show Q7 (.ref w1) h0 n0 _ T105.heap _
    rw [e105]
    exact ⟨rfl, N105, KK101⟩
set_option maxRecDepth 65536 in
set_option maxHeartbeats 40000000 in
theorem rm7_2 (l : Launch) (Z : State) (a0 : Array Value) (hw : ∀ d ∈ tables_1, d.before a0 Z = true) (ws : List Jvm.Cond) (G1 : Int32) (kV : ClassId) (wV w0 w1 w2 : Addr) (s0 s1 s2 : Addr) (h0 : Heap) (n0 : Nat) (O0 : Old Z n0 h0) (S_CS : Sta Z Z.heap "java/lang/String" "COMPACT_STRINGS" "Z" (.int G1)) (hG1 : ¬ (G1 = (0 : Int32))) (S_V : Sta Z Z.heap "dev/tryst/tool/Workload$QueueKind" "$VALUES" "[Ldev/tryst/tool/Workload$QueueKind;" (.ref wV)) (A_V : Arv Z Z.heap wV kV (.object "dev/tryst/tool/Workload$QueueKind") (3 : Int32) [(.ref w0), (.ref w1), (.ref w2)] .null) (E_V : Exa Z Z.heap wV "[Ldev/tryst/tool/Workload$QueueKind;") (M0 : Fld Z Z.heap w0 "dev/tryst/tool/Workload$QueueKind" "mWord" "Ljava/lang/String;" (.ref s0)) (M1 : Fld Z Z.heap w1 "dev/tryst/tool/Workload$QueueKind" "mWord" "Ljava/lang/String;" (.ref s1)) (M2 : Fld Z Z.heap w2 "dev/tryst/tool/Workload$QueueKind" "mWord" "Ljava/lang/String;" (.ref s2)) (T0 : Str Z Z.heap s0 ([(97 : Int32), (114 : Int32), (114 : Int32), (97 : Int32), (121 : Int32)] : List Int32)) (T1 : Str Z Z.heap s1 ([(108 : Int32), (105 : Int32), (110 : Int32), (107 : Int32), (101 : Int32), (100 : Int32)] : List Int32)) (T2 : Str Z Z.heap s2 ([(108 : Int32), (105 : Int32), (110 : Int32), (107 : Int32), (101 : Int32), (100 : Int32), (45 : Int32), (100 : Int32), (101 : Int32), (113 : Int32), (117 : Int32), (101 : Int32)] : List Int32)) :
    MetFree l (⟨"dev/tryst/tool/Workload$QueueKind", "of", "(Ljava/lang/String;)Ldev/tryst/tool/Workload$QueueKind;"⟩ : MethodName) (head1 (Jvm.Cond.code (⟨"dev/tryst/tool/Workload$QueueKind", "of", "(Ljava/lang/String;)Ldev/tryst/tool/Workload$QueueKind;"⟩ : MethodName) prog_40_method_5_code 5 (some (.object "dev/tryst/tool/Workload$QueueKind")) :: ws) ({ frames := 2, cells := 1, slots := 3, locals := 28 } : Room)) (fun a_ U => a_ = #[(.ref s2)] ∧ Z.Warmed39 U.vm ∧ U.heap = h0) (fun _ _ _ _ _ => True) (fun _ U o U' => ∃ v L, o = .returned v ∧ Q7 (.ref w2) h0 n0 v U'.heap L ∧ FrameEnd U o U' L ({ frames := 2, cells := 1, slots := 3, locals := 28 } : Room).cells ({ frames := 2, cells := 1, slots := 3, locals := 28 } : Room).slots) := by
  refine MetFree.of_bodySF (plainFor_of_name pn_0) hisR ?_
  intro p e s m args below meth c s₁ Bd hml0 hP hK
  obtain ⟨rfl, hZ, hh⟩ := hP
  have hx := Bd.exec
  have hby := Bd.bytes
  have hml : c.maxLocals = 5 := hml0
  have hown : s.vm.findClass "dev/tryst/tool/Workload$QueueKind" = some m.cls := findClass_of_methodNamed Bd.named
  have hnm := (name_of_methodNamed Bd.named Bd.method).1
  have X0 : Stand p l e ({ frames := 2, cells := 1, slots := 3, locals := 28 } : Room) s m #[(.ref s2)] below meth c s₁ [] 0 0 := Stand.of_body Bd
  have e0 : s₁.heap = h0 := by rw [← hh, Bd.state]; rfl
  have N0 := Fr.nil n0
  have pre0 : ∀ tg, Steps p.tables e below (s₁.setTop (mkF m 0 #[.val (.ref s2), .unset, .unset, .unset, .unset] [])) tg → Steps p.tables e below (s₁.setTop (entryFrame m #[(.ref s2)] 5)) tg := fun tg kq => castTop (ef_R_5 m s2) kq
  obtain ⟨tm0, kbm0, Nm0, vsm0, sEm0, sVm0, sCm0, sKm0, scdm0, shpm0, shlm0⟩ := id T0
  obtain ⟨tm1, kbm1, Nm1, vsm1, sEm1, sVm1, sCm1, sKm1, scdm1, shpm1, shlm1⟩ := id T1
  obtain ⟨tm2, kbm2, Nm2, vsm2, sEm2, sVm2, sCm2, sKm2, scdm2, shpm2, shlm2⟩ := id T2
  obtain ⟨_, _, ⟨T101, L101, k101, n101⟩, -, X101, ⟨Lc101, hQ101, l101, y101, z101⟩, st101⟩ := Jvm.LawKit.callS X0 hx (y := (⟨"dev/tryst/tool/Workload$QueueKind", "values", "()[Ldev/tryst/tool/Workload$QueueKind;"⟩ : MethodName)) hown (mvT hZ (wi hw 4 rfl)) (mvT hZ (wi hw 5 rfl)) (mvT hZ (wi hw 2 rfl)) (mvT hZ (wi hw 6 rfl)) (by decide) (backOf (W := 0) (rm8 l Z a0 hw [] kV wV w0 w1 w2 h0 n0 O0 S_V A_V E_V) hZ (wi hw 6 rfl) (wi hw 2 rfl) (by decide) (by decide)) (g := (mkF m 0 #[.val (.ref s2), .unset, .unset, .unset, .unset] [])) rfl (by rw [hml]; rfl) (argsL := []) (rest := []) (lenOf pd_0 rfl) rfl (by show 2 * 0 + _ ≤ _; exact Nat.le_of_eq rfl) (hb hby d5_0) (fun _ _ => ⟨rfl, e0, (by decide : 0 + 1 ≤ _), (by decide : 0 + 3 ≤ _)⟩)
  dsimp only [Pt.U, Pt.locs, Pt.cells, Pt.slots] at X101 l101 y101 z101 st101 hQ101
  subst l101 y101 z101
  obtain ⟨bv101, rfl, N101q, K101, szv101, Av101⟩ := hQ101
  obtain ⟨h101, e101⟩ : ∃ z, T101.heap = z := ⟨_, rfl⟩
  rw [e101] at K101 Av101
  have g_bv101 : n0 ≤ bv101 := Nat.le_trans (O0.1 ▸ O0.2.1) szv101
  have sz_bv101 : h0.size ≤ bv101 := Nat.le_trans (Nat.le_refl _) szv101
  have O101 := O0.keep K101 all0
  have KK101 : Keep h0 h101 [] := (Keep.refl h0 []).trans K101 all0
  have N101 := Fr.app N0 N101q
  obtain ⟨cl_bv101_7, Ar_bv101_7, -, S_bv101_7, N_bv101_7, -, -⟩ := id (Av101)
  obtain ⟨cl_bv101_26, Ar_bv101_26, q_bv101_26, S_bv101_26, N_bv101_26, H_bv101_26, G_bv101_26⟩ := id (Av101)
  have hinbv101_26 : ¬ ((0 : Int32) < 0 ∨ cl_bv101_26.slots.size ≤ ((0 : Int32)).toNatClampNeg) := inb_of S_bv101_26 ⟨by decide, by decide⟩
  have hatbv101_26 : cl_bv101_26.slots[((0 : Int32)).toNatClampNeg]? = some (.ref w0) := H_bv101_26.at hinbv101_26 rfl
  obtain ⟨T102, X102, e102, st102⟩ := getF X101 hx hZ hown (host := "") (Or.inl (wi hw 24 rfl)) Via.refl e101 (M0.ext O101.2) (g := (mkF m 21 #[.val (.ref s2), .val (.ref bv101), .val (.int (3 : Int32)), .val (.int (0 : Int32)), .val (.ref w0)] [(.ref w0)])) rfl rfl (hb hby d5_21)
  obtain ⟨cq103, kq103, q103a, q103b, q103c⟩ := isOf hZ e102 (sEm0.ext O101.2)
  obtain ⟨_, _, ⟨T103, L103, k103, n103⟩, -, X103, ⟨Lc103, hQ103, l103, y103, z103⟩, st103⟩ := X102.virtualBack hx (y := (⟨"java/lang/String", "equals", "(Ljava/lang/Object;)Z"⟩ : MethodName)) (z := (⟨"java/lang/String", "equals", "(Ljava/lang/Object;)Z"⟩ : MethodName)) hown (mvT hZ (wi hw 58 rfl)) (mvT hZ (wi hw 36 rfl)) (notFace_of_selects (args := #[]) (mvT hZ (wi hw 38 rfl))) (mvT hZ (wi hw 38 rfl)) (mvT hZ (wi hw 37 rfl)) (by decide) (StrChars.Road.eqW (W := 0) hZ (fun d hd => hw d (own_w_eqW d hd)) (kI := 4) (wi hw 29 rfl) (sEm0.ext O101.2) (sVm0.ext O101.2) (sCm0.ext O101.2) (sKm0.ext O101.2) scdm0 (own_up _ shpm0) shlm0 (sEm2.ext O101.2) (sVm2.ext O101.2) (sCm2.ext O101.2) (sKm2.ext O101.2) scdm2 (own_up _ shpm2) shlm2 (S_CS.ext O101.2) hG1 (by decide) (by decide)) q103a q103c (g := (mkF m 25 #[.val (.ref s2), .val (.ref bv101), .val (.int (3 : Int32)), .val (.int (0 : Int32)), .val (.ref w0)] [(.ref s2), (.ref s0)])) rfl (by rw [hml]; rfl) (Steps.refl _) (argsL := [(.ref s2)]) (rest := []) (lenOf pd_1 rfl) rfl (by show 2 * 0 + _ ≤ _; exact Nat.le_of_eq rfl) (hb hby d5_25) (fun _ _ => ⟨rfl, e102, (by decide : 1 + 0 ≤ _), (by decide : 3 + 0 ≤ _)⟩)
  dsimp only [Pt.U, Pt.locs, Pt.cells, Pt.slots] at X103 l103 y103 z103 st103 hQ103
  subst l103 y103 z103
  obtain ⟨hv103, rfl, hh103⟩ := hQ103
  obtain rfl := (hv103.resolve_left (fun q => ((by decide) : ¬ ([(97 : Int32), (114 : Int32), (114 : Int32), (97 : Int32), (121 : Int32)] : List Int32) = ([(108 : Int32), (105 : Int32), (110 : Int32), (107 : Int32), (101 : Int32), (100 : Int32), (45 : Int32), (100 : Int32), (101 : Int32), (113 : Int32), (117 : Int32), (101 : Int32)] : List Int32)) q.2)).1
  have N103q : Fr n0 ([] : List Loc) := Fr.nil n0
  have e103 : T103.heap = h101 := hh103
  have N103 := Fr.app N101 N103q
  obtain ⟨cl_bv101_54, Ar_bv101_54, q_bv101_54, S_bv101_54, N_bv101_54, H_bv101_54, G_bv101_54⟩ := id (Av101)
  have hinbv101_54 : ¬ ((1 : Int32) < 0 ∨ cl_bv101_54.slots.size ≤ ((1 : Int32)).toNatClampNeg) := inb_of S_bv101_54 ⟨by decide, by decide⟩
  have hatbv101_54 : cl_bv101_54.slots[((1 : Int32)).toNatClampNeg]? = some (.ref w1) := H_bv101_54.at hinbv101_54 rfl
  obtain ⟨T104, X104, e104, st104⟩ := getF X103 hx hZ hown (host := "") (Or.inl (wi hw 24 rfl)) Via.refl e103 (M1.ext O101.2) (g := (mkF m 21 #[.val (.ref s2), .val (.ref bv101), .val (.int (3 : Int32)), .val (.int (1 : Int32)), .val (.ref w1)] [(.ref w1)])) rfl rfl (hb hby d5_21)
  obtain ⟨cq105, kq105, q105a, q105b, q105c⟩ := isOf hZ e104 (sEm1.ext O101.2)
  obtain ⟨_, _, ⟨T105, L105, k105, n105⟩, -, X105, ⟨Lc105, hQ105, l105, y105, z105⟩, st105⟩ := X104.virtualBack hx (y := (⟨"java/lang/String", "equals", "(Ljava/lang/Object;)Z"⟩ : MethodName)) (z := (⟨"java/lang/String", "equals", "(Ljava/lang/Object;)Z"⟩ : MethodName)) hown (mvT hZ (wi hw 58 rfl)) (mvT hZ (wi hw 36 rfl)) (notFace_of_selects (args := #[]) (mvT hZ (wi hw 38 rfl))) (mvT hZ (wi hw 38 rfl)) (mvT hZ (wi hw 37 rfl)) (by decide) (StrChars.Road.eqW (W := 0) hZ (fun d hd => hw d (own_w_eqW d hd)) (kI := 4) (wi hw 29 rfl) (sEm1.ext O101.2) (sVm1.ext O101.2) (sCm1.ext O101.2) (sKm1.ext O101.2) scdm1 (own_up _ shpm1) shlm1 (sEm2.ext O101.2) (sVm2.ext O101.2) (sCm2.ext O101.2) (sKm2.ext O101.2) scdm2 (own_up _ shpm2) shlm2 (S_CS.ext O101.2) hG1 (by decide) (by decide)) q105a q105c (g := (mkF m 25 #[.val (.ref s2), .val (.ref bv101), .val (.int (3 : Int32)), .val (.int (1 : Int32)), .val (.ref w1)] [(.ref s2), (.ref s1)])) rfl (by rw [hml]; rfl) (Steps.refl _) (argsL := [(.ref s2)]) (rest := []) (lenOf pd_1 rfl) rfl (by show 2 * 0 + _ ≤ _; exact Nat.le_of_eq rfl) (hb hby d5_25) (fun _ _ => ⟨rfl, e104, (by decide : 1 + 0 ≤ _), (by decide : 3 + 0 ≤ _)⟩)
  dsimp only [Pt.U, Pt.locs, Pt.cells, Pt.slots] at X105 l105 y105 z105 st105 hQ105
  subst l105 y105 z105
  obtain ⟨hv105, rfl, hh105⟩ := hQ105
  obtain rfl := (hv105.resolve_left (fun q => ((by decide) : ¬ ([(108 : Int32), (105 : Int32), (110 : Int32), (107 : Int32), (101 : Int32), (100 : Int32)] : List Int32) = ([(108 : Int32), (105 : Int32), (110 : Int32), (107 : Int32), (101 : Int32), (100 : Int32), (45 : Int32), (100 : Int32), (101 : Int32), (113 : Int32), (117 : Int32), (101 : Int32)] : List Int32)) q.2)).1
  have N105q : Fr n0 ([] : List Loc) := Fr.nil n0
  have e105 : T105.heap = h101 := hh105
  have N105 := Fr.app N103 N105q
  obtain ⟨cl_bv101_82, Ar_bv101_82, q_bv101_82, S_bv101_82, N_bv101_82, H_bv101_82, G_bv101_82⟩ := id (Av101)
  have hinbv101_82 : ¬ ((2 : Int32) < 0 ∨ cl_bv101_82.slots.size ≤ ((2 : Int32)).toNatClampNeg) := inb_of S_bv101_82 ⟨by decide, by decide⟩
  have hatbv101_82 : cl_bv101_82.slots[((2 : Int32)).toNatClampNeg]? = some (.ref w2) := H_bv101_82.at hinbv101_82 rfl
  obtain ⟨T106, X106, e106, st106⟩ := getF X105 hx hZ hown (host := "") (Or.inl (wi hw 24 rfl)) Via.refl e105 (M2.ext O101.2) (g := (mkF m 21 #[.val (.ref s2), .val (.ref bv101), .val (.int (3 : Int32)), .val (.int (2 : Int32)), .val (.ref w2)] [(.ref w2)])) rfl rfl (hb hby d5_21)
  obtain ⟨cq107, kq107, q107a, q107b, q107c⟩ := isOf hZ e106 (sEm2.ext O101.2)
  obtain ⟨_, _, ⟨T107, L107, k107, n107⟩, -, X107, ⟨Lc107, hQ107, l107, y107, z107⟩, st107⟩ := X106.virtualBack hx (y := (⟨"java/lang/String", "equals", "(Ljava/lang/Object;)Z"⟩ : MethodName)) (z := (⟨"java/lang/String", "equals", "(Ljava/lang/Object;)Z"⟩ : MethodName)) hown (mvT hZ (wi hw 58 rfl)) (mvT hZ (wi hw 36 rfl)) (notFace_of_selects (args := #[]) (mvT hZ (wi hw 38 rfl))) (mvT hZ (wi hw 38 rfl)) (mvT hZ (wi hw 37 rfl)) (by decide) (StrChars.Road.eqW (W := 0) hZ (fun d hd => hw d (own_w_eqW d hd)) (kI := 4) (wi hw 29 rfl) (sEm2.ext O101.2) (sVm2.ext O101.2) (sCm2.ext O101.2) (sKm2.ext O101.2) scdm2 (own_up _ shpm2) shlm2 (sEm2.ext O101.2) (sVm2.ext O101.2) (sCm2.ext O101.2) (sKm2.ext O101.2) scdm2 (own_up _ shpm2) shlm2 (S_CS.ext O101.2) hG1 (by decide) (by decide)) q107a q107c (g := (mkF m 25 #[.val (.ref s2), .val (.ref bv101), .val (.int (3 : Int32)), .val (.int (2 : Int32)), .val (.ref w2)] [(.ref s2), (.ref s2)])) rfl (by rw [hml]; rfl) (Steps.refl _) (argsL := [(.ref s2)]) (rest := []) (lenOf pd_1 rfl) rfl (by show 2 * 0 + _ ≤ _; exact Nat.le_of_eq rfl) (hb hby d5_25) (fun _ _ => ⟨rfl, e106, (by decide : 1 + 0 ≤ _), (by decide : 3 + 0 ≤ _)⟩)
  dsimp only [Pt.U, Pt.locs, Pt.cells, Pt.slots] at X107 l107 y107 z107 st107 hQ107
  subst l107 y107 z107
  obtain ⟨hv107, rfl, hh107⟩ := hQ107
  obtain rfl := (hv107.resolve_right (fun q => q.2 ((by decide) : ([(108 : Int32), (105 : Int32), (110 : Int32), (107 : Int32), (101 : Int32), (100 : Int32), (45 : Int32), (100 : Int32), (101 : Int32), (113 : Int32), (117 : Int32), (101 : Int32)] : List Int32) = ([(108 : Int32), (105 : Int32), (110 : Int32), (107 : Int32), (101 : Int32), (100 : Int32), (45 : Int32), (100 : Int32), (101 : Int32), (113 : Int32), (117 : Int32), (101 : Int32)] : List Int32)))).1
  have N107q : Fr n0 ([] : List Loc) := Fr.nil n0
  have e107 : T107.heap = h101 := hh107
  have N107 := Fr.app N105 N107q
  obtain ⟨fs, hr, hrun, hended, hW, hsame⟩ := X107.leave (v := some (.ref w2)) (fun h => by rw [Bd.returns] at h; cases h)
  refine ⟨_, _, pre0 _ ?_, hrun, hended, _, _, rfl, ?_, ⟨_, rfl⟩, hW, hsame.mono (by decide) (by decide)⟩
  · show Steps p.tables e below (s₁.setTop (mkF m 0 #[.val (.ref s2), .unset, .unset, .unset, .unset] [])) _
    refine st101 _ ?_
    show Steps p.tables e below (T101.setTop (mkF m 3 #[.val (.ref s2), .unset, .unset, .unset, .unset] [(.ref bv101)])) _
    refine XS.astoreN X101.here hx rfl (hb hby d5_3) rfl rfl (l' := #[.val (.ref s2), .val (.ref bv101), .unset, .unset, .unset]) rfl ?_
    show Steps p.tables e below (T101.setTop (mkF m 4 #[.val (.ref s2), .val (.ref bv101), .unset, .unset, .unset] [])) _
    refine XS.aloadN X101.here hx rfl (hb hby d5_4) rfl rfl ?_
    show Steps p.tables e below (T101.setTop (mkF m 5 #[.val (.ref s2), .val (.ref bv101), .unset, .unset, .unset] [(.ref bv101)])) _
    refine X101.arraylength hx (by rw [e101]; exact Ar_bv101_7.1) (State.isArrayOf_alike hZ.alike Ar_bv101_7.2.1) (g := (mkF m 5 #[.val (.ref s2), .val (.ref bv101), .unset, .unset, .unset] [(.ref bv101)])) rfl rfl (hb hby d5_5) _ ?_
    rw [len_of S_bv101_7 N_bv101_7]
    show Steps p.tables e below (T101.setTop (mkF m 6 #[.val (.ref s2), .val (.ref bv101), .unset, .unset, .unset] [(.int (3 : Int32))])) _
    refine XS.istoreN X101.here hx rfl (hb hby d5_6) rfl (l' := #[.val (.ref s2), .val (.ref bv101), .val (.int (3 : Int32)), .unset, .unset]) rfl ?_
    show Steps p.tables e below (T101.setTop (mkF m 7 #[.val (.ref s2), .val (.ref bv101), .val (.int (3 : Int32)), .unset, .unset] [])) _
    refine XS.iconst X101.here hx rfl (hb hby d5_7) ?_
    show Steps p.tables e below (T101.setTop (mkF m 8 #[.val (.ref s2), .val (.ref bv101), .val (.int (3 : Int32)), .unset, .unset] [(.int (0 : Int32))])) _
    refine XS.istoreN X101.here hx rfl (hb hby d5_8) rfl (l' := #[.val (.ref s2), .val (.ref bv101), .val (.int (3 : Int32)), .val (.int (0 : Int32)), .unset]) rfl ?_
    show Steps p.tables e below (T101.setTop (mkF m 9 #[.val (.ref s2), .val (.ref bv101), .val (.int (3 : Int32)), .val (.int (0 : Int32)), .unset] [])) _
    refine XS.iloadN X101.here hx rfl (hb hby d5_9) rfl ?_
    show Steps p.tables e below (T101.setTop (mkF m 10 #[.val (.ref s2), .val (.ref bv101), .val (.int (3 : Int32)), .val (.int (0 : Int32)), .unset] [(.int (0 : Int32))])) _
    refine XS.iloadN X101.here hx rfl (hb hby d5_10) rfl ?_
    show Steps p.tables e below (T101.setTop (mkF m 11 #[.val (.ref s2), .val (.ref bv101), .val (.int (3 : Int32)), .val (.int (0 : Int32)), .unset] [(.int (3 : Int32)), (.int (0 : Int32))])) _
    refine XS.icmpNo X101.here hx rfl (hb hby d5_11) rfl (tlt (by decide : (0 : Int32) < (3 : Int32))).2.1 ?_
    show Steps p.tables e below (T101.setTop (mkF m 14 #[.val (.ref s2), .val (.ref bv101), .val (.int (3 : Int32)), .val (.int (0 : Int32)), .unset] [])) _
    refine XS.aloadN X101.here hx rfl (hb hby d5_14) rfl rfl ?_
    show Steps p.tables e below (T101.setTop (mkF m 15 #[.val (.ref s2), .val (.ref bv101), .val (.int (3 : Int32)), .val (.int (0 : Int32)), .unset] [(.ref bv101)])) _
    refine XS.iloadN X101.here hx rfl (hb hby d5_15) rfl ?_
    show Steps p.tables e below (T101.setTop (mkF m 16 #[.val (.ref s2), .val (.ref bv101), .val (.int (3 : Int32)), .val (.int (0 : Int32)), .unset] [(.int (0 : Int32)), (.ref bv101)])) _
    refine X101.aaload hx (j := (0 : Int32)) (v := (.ref w0)) (by rw [e101]; exact Ar_bv101_26.1) (State.isArrayOf_alike hZ.alike Ar_bv101_26.2.1) rfl Ar_bv101_26.2.2 hinbv101_26 hatbv101_26 (g := (mkF m 16 #[.val (.ref s2), .val (.ref bv101), .val (.int (3 : Int32)), .val (.int (0 : Int32)), .unset] [(.int (0 : Int32)), (.ref bv101)])) rfl rfl (hb hby d5_16) _ ?_
    show Steps p.tables e below (T101.setTop (mkF m 17 #[.val (.ref s2), .val (.ref bv101), .val (.int (3 : Int32)), .val (.int (0 : Int32)), .unset] [(.ref w0)])) _
    refine XS.astore X101.here hx rfl (hb hby d5_17) rfl rfl (l' := #[.val (.ref s2), .val (.ref bv101), .val (.int (3 : Int32)), .val (.int (0 : Int32)), .val (.ref w0)]) rfl ?_
    show Steps p.tables e below (T101.setTop (mkF m 19 #[.val (.ref s2), .val (.ref bv101), .val (.int (3 : Int32)), .val (.int (0 : Int32)), .val (.ref w0)] [])) _
    refine XS.aload X101.here hx rfl (hb hby d5_19) rfl rfl ?_
    show Steps p.tables e below (T101.setTop (mkF m 21 #[.val (.ref s2), .val (.ref bv101), .val (.int (3 : Int32)), .val (.int (0 : Int32)), .val (.ref w0)] [(.ref w0)])) _
    refine st102 _ ?_
    show Steps p.tables e below (T102.setTop (mkF m 24 #[.val (.ref s2), .val (.ref bv101), .val (.int (3 : Int32)), .val (.int (0 : Int32)), .val (.ref w0)] [(.ref s0)])) _
    refine XS.aloadN X102.here hx rfl (hb hby d5_24) rfl rfl ?_
    show Steps p.tables e below (T102.setTop (mkF m 25 #[.val (.ref s2), .val (.ref bv101), .val (.int (3 : Int32)), .val (.int (0 : Int32)), .val (.ref w0)] [(.ref s2), (.ref s0)])) _
    refine st103.trans ?_
    show Steps p.tables e below (T103.setTop (mkF m 28 #[.val (.ref s2), .val (.ref bv101), .val (.int (3 : Int32)), .val (.int (0 : Int32)), .val (.ref w0)] [(.int (0 : Int32))])) _
    refine XS.ifYes X103.here hx rfl (pc0 := 28) (pc' := 34) rfl (hb hby d5_28) rfl ((if0 _ _).trans (teq (by decide : (0 : Int32) = (0 : Int32))).1) (by decide) (by decide) ?_
    show Steps p.tables e below (T103.setTop (mkF m 34 #[.val (.ref s2), .val (.ref bv101), .val (.int (3 : Int32)), .val (.int (0 : Int32)), .val (.ref w0)] [])) _
    refine XS.iinc X103.here hx rfl (hb hby d5_34) rfl (l' := #[.val (.ref s2), .val (.ref bv101), .val (.int (3 : Int32)), .val (.int (1 : Int32)), .val (.ref w0)]) rfl ?_
    show Steps p.tables e below (T103.setTop (mkF m 37 #[.val (.ref s2), .val (.ref bv101), .val (.int (3 : Int32)), .val (.int (1 : Int32)), .val (.ref w0)] [])) _
    refine XS.goto X103.here hx rfl (pc0 := 37) (pc' := 9) rfl (hb hby d5_37) (by decide) (by decide) ?_
    show Steps p.tables e below (T103.setTop (mkF m 9 #[.val (.ref s2), .val (.ref bv101), .val (.int (3 : Int32)), .val (.int (1 : Int32)), .val (.ref w0)] [])) _
    refine XS.iloadN X103.here hx rfl (hb hby d5_9) rfl ?_
    show Steps p.tables e below (T103.setTop (mkF m 10 #[.val (.ref s2), .val (.ref bv101), .val (.int (3 : Int32)), .val (.int (1 : Int32)), .val (.ref w0)] [(.int (1 : Int32))])) _
    refine XS.iloadN X103.here hx rfl (hb hby d5_10) rfl ?_
    show Steps p.tables e below (T103.setTop (mkF m 11 #[.val (.ref s2), .val (.ref bv101), .val (.int (3 : Int32)), .val (.int (1 : Int32)), .val (.ref w0)] [(.int (3 : Int32)), (.int (1 : Int32))])) _
    refine XS.icmpNo X103.here hx rfl (hb hby d5_11) rfl (tlt (by decide : (1 : Int32) < (3 : Int32))).2.1 ?_
    show Steps p.tables e below (T103.setTop (mkF m 14 #[.val (.ref s2), .val (.ref bv101), .val (.int (3 : Int32)), .val (.int (1 : Int32)), .val (.ref w0)] [])) _
    refine XS.aloadN X103.here hx rfl (hb hby d5_14) rfl rfl ?_
    show Steps p.tables e below (T103.setTop (mkF m 15 #[.val (.ref s2), .val (.ref bv101), .val (.int (3 : Int32)), .val (.int (1 : Int32)), .val (.ref w0)] [(.ref bv101)])) _
    refine XS.iloadN X103.here hx rfl (hb hby d5_15) rfl ?_
    show Steps p.tables e below (T103.setTop (mkF m 16 #[.val (.ref s2), .val (.ref bv101), .val (.int (3 : Int32)), .val (.int (1 : Int32)), .val (.ref w0)] [(.int (1 : Int32)), (.ref bv101)])) _
    refine X103.aaload hx (j := (1 : Int32)) (v := (.ref w1)) (by rw [e103]; exact Ar_bv101_54.1) (State.isArrayOf_alike hZ.alike Ar_bv101_54.2.1) rfl Ar_bv101_54.2.2 hinbv101_54 hatbv101_54 (g := (mkF m 16 #[.val (.ref s2), .val (.ref bv101), .val (.int (3 : Int32)), .val (.int (1 : Int32)), .val (.ref w0)] [(.int (1 : Int32)), (.ref bv101)])) rfl rfl (hb hby d5_16) _ ?_
    show Steps p.tables e below (T103.setTop (mkF m 17 #[.val (.ref s2), .val (.ref bv101), .val (.int (3 : Int32)), .val (.int (1 : Int32)), .val (.ref w0)] [(.ref w1)])) _
    refine XS.astore X103.here hx rfl (hb hby d5_17) rfl rfl (l' := #[.val (.ref s2), .val (.ref bv101), .val (.int (3 : Int32)), .val (.int (1 : Int32)), .val (.ref w1)]) rfl ?_
    show Steps p.tables e below (T103.setTop (mkF m 19 #[.val (.ref s2), .val (.ref bv101), .val (.int (3 : Int32)), .val (.int (1 : Int32)), .val (.ref w1)] [])) _
    refine XS.aload X103.here hx rfl (hb hby d5_19) rfl rfl ?_
    show Steps p.tables e below (T103.setTop (mkF m 21 #[.val (.ref s2), .val (.ref bv101), .val (.int (3 : Int32)), .val (.int (1 : Int32)), .val (.ref w1)] [(.ref w1)])) _
    refine st104 _ ?_
    show Steps p.tables e below (T104.setTop (mkF m 24 #[.val (.ref s2), .val (.ref bv101), .val (.int (3 : Int32)), .val (.int (1 : Int32)), .val (.ref w1)] [(.ref s1)])) _
    refine XS.aloadN X104.here hx rfl (hb hby d5_24) rfl rfl ?_
    show Steps p.tables e below (T104.setTop (mkF m 25 #[.val (.ref s2), .val (.ref bv101), .val (.int (3 : Int32)), .val (.int (1 : Int32)), .val (.ref w1)] [(.ref s2), (.ref s1)])) _
    refine st105.trans ?_
    show Steps p.tables e below (T105.setTop (mkF m 28 #[.val (.ref s2), .val (.ref bv101), .val (.int (3 : Int32)), .val (.int (1 : Int32)), .val (.ref w1)] [(.int (0 : Int32))])) _
    refine XS.ifYes X105.here hx rfl (pc0 := 28) (pc' := 34) rfl (hb hby d5_28) rfl ((if0 _ _).trans (teq (by decide : (0 : Int32) = (0 : Int32))).1) (by decide) (by decide) ?_
    show Steps p.tables e below (T105.setTop (mkF m 34 #[.val (.ref s2), .val (.ref bv101), .val (.int (3 : Int32)), .val (.int (1 : Int32)), .val (.ref w1)] [])) _
    refine XS.iinc X105.here hx rfl (hb hby d5_34) rfl (l' := #[.val (.ref s2), .val (.ref bv101), .val (.int (3 : Int32)), .val (.int (2 : Int32)), .val (.ref w1)]) rfl ?_
    show Steps p.tables e below (T105.setTop (mkF m 37 #[.val (.ref s2), .val (.ref bv101), .val (.int (3 : Int32)), .val (.int (2 : Int32)), .val (.ref w1)] [])) _
    refine XS.goto X105.here hx rfl (pc0 := 37) (pc' := 9) rfl (hb hby d5_37) (by decide) (by decide) ?_
    show Steps p.tables e below (T105.setTop (mkF m 9 #[.val (.ref s2), .val (.ref bv101), .val (.int (3 : Int32)), .val (.int (2 : Int32)), .val (.ref w1)] [])) _
    refine XS.iloadN X105.here hx rfl (hb hby d5_9) rfl ?_
    show Steps p.tables e below (T105.setTop (mkF m 10 #[.val (.ref s2), .val (.ref bv101), .val (.int (3 : Int32)), .val (.int (2 : Int32)), .val (.ref w1)] [(.int (2 : Int32))])) _
    refine XS.iloadN X105.here hx rfl (hb hby d5_10) rfl ?_
    show Steps p.tables e below (T105.setTop (mkF m 11 #[.val (.ref s2), .val (.ref bv101), .val (.int (3 : Int32)), .val (.int (2 : Int32)), .val (.ref w1)] [(.int (3 : Int32)), (.int (2 : Int32))])) _
    refine XS.icmpNo X105.here hx rfl (hb hby d5_11) rfl (tlt (by decide : (2 : Int32) < (3 : Int32))).2.1 ?_
    show Steps p.tables e below (T105.setTop (mkF m 14 #[.val (.ref s2), .val (.ref bv101), .val (.int (3 : Int32)), .val (.int (2 : Int32)), .val (.ref w1)] [])) _
    refine XS.aloadN X105.here hx rfl (hb hby d5_14) rfl rfl ?_
    show Steps p.tables e below (T105.setTop (mkF m 15 #[.val (.ref s2), .val (.ref bv101), .val (.int (3 : Int32)), .val (.int (2 : Int32)), .val (.ref w1)] [(.ref bv101)])) _
    refine XS.iloadN X105.here hx rfl (hb hby d5_15) rfl ?_
    show Steps p.tables e below (T105.setTop (mkF m 16 #[.val (.ref s2), .val (.ref bv101), .val (.int (3 : Int32)), .val (.int (2 : Int32)), .val (.ref w1)] [(.int (2 : Int32)), (.ref bv101)])) _
    refine X105.aaload hx (j := (2 : Int32)) (v := (.ref w2)) (by rw [e105]; exact Ar_bv101_82.1) (State.isArrayOf_alike hZ.alike Ar_bv101_82.2.1) rfl Ar_bv101_82.2.2 hinbv101_82 hatbv101_82 (g := (mkF m 16 #[.val (.ref s2), .val (.ref bv101), .val (.int (3 : Int32)), .val (.int (2 : Int32)), .val (.ref w1)] [(.int (2 : Int32)), (.ref bv101)])) rfl rfl (hb hby d5_16) _ ?_
    show Steps p.tables e below (T105.setTop (mkF m 17 #[.val (.ref s2), .val (.ref bv101), .val (.int (3 : Int32)), .val (.int (2 : Int32)), .val (.ref w1)] [(.ref w2)])) _
    refine XS.astore X105.here hx rfl (hb hby d5_17) rfl rfl (l' := #[.val (.ref s2), .val (.ref bv101), .val (.int (3 : Int32)), .val (.int (2 : Int32)), .val (.ref w2)]) rfl ?_
    show Steps p.tables e below (T105.setTop (mkF m 19 #[.val (.ref s2), .val (.ref bv101), .val (.int (3 : Int32)), .val (.int (2 : Int32)), .val (.ref w2)] [])) _
    refine XS.aload X105.here hx rfl (hb hby d5_19) rfl rfl ?_
    show Steps p.tables e below (T105.setTop (mkF m 21 #[.val (.ref s2), .val (.ref bv101), .val (.int (3 : Int32)), .val (.int (2 : Int32)), .val (.ref w2)] [(.ref w2)])) _
    refine st106 _ ?_
    show Steps p.tables e below (T106.setTop (mkF m 24 #[.val (.ref s2), .val (.ref bv101), .val (.int (3 : Int32)), .val (.int (2 : Int32)), .val (.ref w2)] [(.ref s2)])) _
    refine XS.aloadN X106.here hx rfl (hb hby d5_24) rfl rfl ?_
    show Steps p.tables e below (T106.setTop (mkF m 25 #[.val (.ref s2), .val (.ref bv101), .val (.int (3 : Int32)), .val (.int (2 : Int32)), .val (.ref w2)] [(.ref s2), (.ref s2)])) _
    refine st107.trans ?_
    show Steps p.tables e below (T107.setTop (mkF m 28 #[.val (.ref s2), .val (.ref bv101), .val (.int (3 : Int32)), .val (.int (2 : Int32)), .val (.ref w2)] [(.int (1 : Int32))])) _
    refine XS.ifNo X107.here hx rfl (hb hby d5_28) rfl ((if0 _ _).trans (feq (by decide : ¬ ((1 : Int32) = (0 : Int32)))).1) ?_
    show Steps p.tables e below (T107.setTop (mkF m 31 #[.val (.ref s2), .val (.ref bv101), .val (.int (3 : Int32)), .val (.int (2 : Int32)), .val (.ref w2)] [])) _
    refine XS.aload X107.here hx rfl (hb hby d5_31) rfl rfl ?_
    show Steps p.tables e below (T107.setTop (mkF m 33 #[.val (.ref s2), .val (.ref bv101), .val (.int (3 : Int32)), .val (.int (2 : Int32)), .val (.ref w2)] [(.ref w2)])) _
    jvm_step X107.here [X107.here.top, hx, (hb hby d5_33), X107.method', Bd.returns, Value.isRef, FieldType.isReference]
    first | (intro acts; rw [hr _ acts rfl rfl rfl]) | rw [hr _ _ rfl rfl rfl]
    exact Steps.refl _
  · show Q7 (.ref w2) h0 n0 _ T107.heap _
    rw [e107]
    exact ⟨rfl, N107, KK101⟩
def Q0 (h0 : Heap) (n0 : Nat) (v : Option Value) (h : Heap) (L : List Loc) : Prop := v = some (.int (1 : Int32)) ∧ Fr n0 L
theorem pd_2 : parseMethodDescriptor "()[Ljava/lang/String;" = some ⟨[], some (.array (.object "java/lang/String"))⟩ := by decide +kernel
theorem own_strw : ∀ d ∈ Bundle.stringAtoms, d ∈ tables_1 := by decide +kernel
theorem pd_3 : parseMethodDescriptor "(Ljava/lang/String;)Ldev/tryst/tool/Workload$QueueKind;" = some ⟨[(.object "java/lang/String")], some (.object "dev/tryst/tool/Workload$QueueKind")⟩ := by decide +kernel
theorem ef_I_4m (m : MethodId) (x0 : Int32) : entryFrame m #[(.int x0)] maxLocals = mkF m 0 #[.val (.int x0), .unset, .unset, .unset] [] := by first | (simp [entryFrame, mkF, argsToLocals, Value.category, maxLocals]; done) | rfl
theorem pn_1 : plainName "dev/tryst/tool/QueueKindWordsPinLaw" = true := by first | (simp [plainName, overriddenIn]; done) | decide +kernel
set_option maxRecDepth 65536 in
set_option maxHeartbeats 40000000 in
theorem rm0_0 (l : Launch) (Z : State) (a0 : Array Value) (hw : ∀ d ∈ tables_1, d.before a0 Z = true) (ws : List Jvm.Cond) (p1 : Int32) (G1 : Int32) (kV : ClassId) (wV w0 w1 w2 : Addr) (s0 s1 s2 : Addr) (h0 : Heap) (n0 : Nat) (O0 : Old Z n0 h0) (S_CS : Sta Z Z.heap "java/lang/String" "COMPACT_STRINGS" "Z" (.int G1)) (hG1 : ¬ (G1 = (0 : Int32))) (S_V : Sta Z Z.heap "dev/tryst/tool/Workload$QueueKind" "$VALUES" "[Ldev/tryst/tool/Workload$QueueKind;" (.ref wV)) (A_V : Arv Z Z.heap wV kV (.object "dev/tryst/tool/Workload$QueueKind") (3 : Int32) [(.ref w0), (.ref w1), (.ref w2)] .null) (E_V : Exa Z Z.heap wV "[Ldev/tryst/tool/Workload$QueueKind;") (M0 : Fld Z Z.heap w0 "dev/tryst/tool/Workload$QueueKind" "mWord" "Ljava/lang/String;" (.ref s0)) (M1 : Fld Z Z.heap w1 "dev/tryst/tool/Workload$QueueKind" "mWord" "Ljava/lang/String;" (.ref s1)) (M2 : Fld Z Z.heap w2 "dev/tryst/tool/Workload$QueueKind" "mWord" "Ljava/lang/String;" (.ref s2)) (T0 : Str Z Z.heap s0 ([(97 : Int32), (114 : Int32), (114 : Int32), (97 : Int32), (121 : Int32)] : List Int32)) (T1 : Str Z Z.heap s1 ([(108 : Int32), (105 : Int32), (110 : Int32), (107 : Int32), (101 : Int32), (100 : Int32)] : List Int32)) (T2 : Str Z Z.heap s2 ([(108 : Int32), (105 : Int32), (110 : Int32), (107 : Int32), (101 : Int32), (100 : Int32), (45 : Int32), (100 : Int32), (101 : Int32), (113 : Int32), (117 : Int32), (101 : Int32)] : List Int32)) (S_K0 : Sta Z Z.heap "dev/tryst/tool/Workload$QueueKind" "ARRAY" "Ldev/tryst/tool/Workload$QueueKind;" (.ref w0)) (S_K1 : Sta Z Z.heap "dev/tryst/tool/Workload$QueueKind" "LINKED" "Ldev/tryst/tool/Workload$QueueKind;" (.ref w1)) (S_K2 : Sta Z Z.heap "dev/tryst/tool/Workload$QueueKind" "LINKED_DEQUE" "Ldev/tryst/tool/Workload$QueueKind;" (.ref w2)) (kk : (irm (p1 &&& (2147483647 : Int32)) (3 : Int32)) = (0 : Int32)) :
    MetFree l x (head1 (Jvm.Cond.code x code maxLocals ret :: ws) room_1) (fun a_ U => a_ = #[(.int p1)] ∧ Z.Warmed39 U.vm ∧ U.heap = h0 ∧ CHv Z consts_1 U.vm h0) (fun _ _ _ _ _ => True) (fun _ U o U' => ∃ v L, o = .returned v ∧ Q0 h0 n0 v U'.heap L ∧ CHr Z consts_1 U.vm U.heap U'.vm U'.heap ∧ ReturnedEndW U o U' L room_1.cells room_1.slots) := by
  refine MetFree.of_bodySF (plainFor_of_name pn_1) hisR ?_
  intro p e s m args below meth c s₁ Bd hml0 hP hK
  obtain ⟨rfl, hZ, hh, hC⟩ := hP
  have hx := Bd.exec
  have hby := Bd.bytes
  have hml : c.maxLocals = 4 := hml0
  have hown : s.vm.findClass "dev/tryst/tool/QueueKindWordsPinLaw" = some m.cls := findClass_of_methodNamed Bd.named
  have hnm := (name_of_methodNamed Bd.named Bd.method).1
  have X0 : Stand p l e room_1 (s.setVm s.vm) m #[(.int p1)] below meth c s₁ [] 0 0 := Stand.of_body Bd
  have e0 : s₁.heap = h0 := by rw [← hh, Bd.state]; rfl
  have N0 := Fr.nil n0
  have pre0 : ∀ tg, Steps p.tables e below (s₁.setTop (mkF m 0 #[.val (.int p1), .unset, .unset, .unset] [])) tg → Steps p.tables e below (s₁.setTop (entryFrame m #[(.int p1)] maxLocals)) tg := fun tg kq => castTop (ef_I_4m m p1) kq
  have hS0 : s.Since s.vm h0.size := (State.WarmedH.refl s).since _
  have hk0 : h0.size ≤ h0.size := Nat.le_refl _
  have CR0 : CHr Z consts_1 s.vm h0 s.vm h0 := CHr.refl hC
  obtain ⟨tm0, kbm0, Nm0, vsm0, sEm0, sVm0, sCm0, sKm0, scdm0, shpm0, shlm0⟩ := id T0
  obtain ⟨tm1, kbm1, Nm1, vsm1, sEm1, sVm1, sCm1, sKm1, scdm1, shpm1, shlm1⟩ := id T1
  obtain ⟨tm2, kbm2, Nm2, vsm2, sEm2, sVm2, sCm2, sKm2, scdm2, shpm2, shlm2⟩ := id T2
  obtain ⟨_, _, ⟨T101, L101, k101, n101⟩, -, X101, ⟨Lc101, hQ101, l101, y101, z101⟩, st101⟩ := Jvm.LawKit.callS X0 hx (y := (⟨"dev/tryst/tool/Workload$QueueKind", "words", "()[Ljava/lang/String;"⟩ : MethodName)) hown (mvT hZ (wi hw 0 rfl)) (mvT hZ (wi hw 1 rfl)) (mvT hZ (wi hw 2 rfl)) (mvT hZ (wi hw 3 rfl)) (by decide) (backOf (W := 0) (rm1 l Z a0 hw [] G1 kV wV w0 w1 w2 s0 s1 s2 h0 n0 O0 S_CS hG1 S_V A_V E_V M0 M1 M2 T0 T1 T2) hZ (wi hw 3 rfl) (wi hw 2 rfl) (by decide) (by decide)) (g := (mkF m 0 #[.val (.int p1), .unset, .unset, .unset] [])) rfl (by rw [hml]; rfl) (argsL := []) (rest := []) (lenOf pd_2 rfl) rfl (by show 2 * 0 + _ ≤ _; exact Nat.le_of_eq rfl) (hb hby at_0) (fun _ _ => ⟨rfl, e0, (by decide : 0 + 2 ≤ _), (by decide : 0 + 6 ≤ _)⟩)
  dsimp only [Pt.U, Pt.locs, Pt.cells, Pt.slots] at X101 l101 y101 z101 st101 hQ101
  subst l101 y101 z101
  obtain ⟨bw101, kw101, rfl, N101q, K101, szw101, Aw101⟩ := hQ101
  obtain ⟨h101, e101⟩ : ∃ z, T101.heap = z := ⟨_, rfl⟩
  rw [e101] at K101 Aw101
  have g_bw101 : n0 ≤ bw101 := Nat.le_trans (O0.1 ▸ O0.2.1) szw101
  have sz_bw101 : h0.size ≤ bw101 := Nat.le_trans (Nat.le_refl _) szw101
  have O101 := O0.keep K101 all0
  have CS101 := CHr.keep K101 sf0 CR0.1
  have CR101 := CR0.trans CS101
  have KK101 : Keep h0 h101 [] := (Keep.refl h0 []).trans K101 all0
  have N101 := Fr.app N0 N101q
  obtain ⟨cl_bw101_11, Ar_bw101_11, -, S_bw101_11, N_bw101_11, -, -⟩ := id (Aw101)
  obtain ⟨a102, T102, h102, k102, b102, kb102, X102, e102, E102, hS102, hk102, hZ102, hown102, lE102, lC102, lV102, lK102, la102, lb102, CS102, lL102, lne102, st102⟩ := ldcCH (s := s) (EL := consts_1) X101 hx hZ hown (wi hw 27 rfl) (fun d hd => hw d (own_strw d hd)) e101 hS0 (Nat.le_trans hk0 K101.1) (own_EW hw) (by decide) CR101.1 (vs := [(.int (97 : Int32)), (.int (114 : Int32)), (.int (114 : Int32)), (.int (97 : Int32)), (.int (121 : Int32))]) (z := (5 : Int32)) ⟨by decide, by decide⟩ (by decide) (by decide) (g := (mkF m 16 #[.val (.int p1), .val (.ref bw101), .unset, .unset] [])) rfl (hb hby at_16) (n := 20) (by decide) (by decide) (by decide) (by decide)
  have O102 := O101.ext E102
  have CR102 := CR101.trans CS102
  have KK102 : Keep h0 h102 [] := KK101.ext E102
  have lcd102 : StrChars.Road.CodA ([(97 : Int32), (114 : Int32), (114 : Int32), (97 : Int32), (121 : Int32)] : List Int32) 0 (5 : Int32) [(.int (97 : Int32)), (.int (114 : Int32)), (.int (114 : Int32)), (.int (97 : Int32)), (.int (121 : Int32))] := Or.inl ⟨rfl, rfl, rfl, by decide⟩
  have lhp102 : ∀ c ∈ ([(97 : Int32), (114 : Int32), (114 : Int32), (97 : Int32), (121 : Int32)] : List Int32), ¬ c < 0 ∧ ¬ (255 : Int32) < c := by decide
  have fV_bw101_2_103 := (Aw101.ext E102)
  obtain ⟨cl_bw101_24, Ar_bw101_24, q_bw101_24, S_bw101_24, N_bw101_24, H_bw101_24, G_bw101_24⟩ := id (fV_bw101_2_103)
  have hinbw101_24 : ¬ ((0 : Int32) < 0 ∨ cl_bw101_24.slots.size ≤ ((0 : Int32)).toNatClampNeg) := inb_of S_bw101_24 ⟨by decide, by decide⟩
  have hatbw101_24 : cl_bw101_24.slots[((0 : Int32)).toNatClampNeg]? = some (.ref s0) := H_bw101_24.at hinbw101_24 rfl
  obtain ⟨cq104, kq104, q104a, q104b, q104c⟩ := isOf hZ102 e102 lE102
  obtain ⟨_, _, ⟨T104, L104, k104, n104⟩, -, X104, ⟨Lc104, hQ104, l104, y104, z104⟩, st104⟩ := X102.virtualBack hx (y := (⟨"java/lang/String", "equals", "(Ljava/lang/Object;)Z"⟩ : MethodName)) (z := (⟨"java/lang/String", "equals", "(Ljava/lang/Object;)Z"⟩ : MethodName)) hown102 (mvT hZ102 (wi hw 35 rfl)) (mvT hZ102 (wi hw 36 rfl)) (notFace_of_selects (args := #[]) (mvT hZ102 (wi hw 38 rfl))) (mvT hZ102 (wi hw 38 rfl)) (mvT hZ102 (wi hw 37 rfl)) (by decide) (StrChars.Road.eqW (W := 0) hZ102 (fun d hd => hw d (own_w_eqW d hd)) (kI := 4) (wi hw 29 rfl) lE102 lV102 lC102 lK102 lcd102 (own_up _ lhp102) (by decide) (sEm0.ext O102.2) (sVm0.ext O102.2) (sCm0.ext O102.2) (sKm0.ext O102.2) scdm0 (own_up _ shpm0) shlm0 (S_CS.ext O102.2) hG1 (by decide) (by decide)) q104a q104c (g := (mkF m 21 #[.val (.int p1), .val (.ref bw101), .unset, .unset] [(.ref s0), (.ref a102)])) rfl (by rw [hml]; rfl) (Steps.refl _) (argsL := [(.ref s0)]) (rest := []) (lenOf pd_1 rfl) rfl (by show 2 * 0 + _ ≤ _; exact Nat.le_of_eq rfl) (hb hby at_21) (fun _ _ => ⟨rfl, e102, (by decide : 4 + 0 ≤ _), (by decide : 30 + 0 ≤ _)⟩)
  dsimp only [Pt.U, Pt.locs, Pt.cells, Pt.slots] at X104 l104 y104 z104 st104 hQ104
  subst l104 y104 z104
  obtain ⟨hv104, rfl, hh104⟩ := hQ104
  obtain rfl := (hv104.resolve_right (fun q => q.2 ((by decide) : ([(97 : Int32), (114 : Int32), (114 : Int32), (97 : Int32), (121 : Int32)] : List Int32) = ([(97 : Int32), (114 : Int32), (114 : Int32), (97 : Int32), (121 : Int32)] : List Int32)))).1
  have N104q : Fr n0 ([] : List Loc) := Fr.nil n0
  have e104 : T104.heap = h102 := hh104
  have N104 := Fr.app N101 N104q
  obtain ⟨a105, T105, h105, k105, b105, kb105, X105, e105, E105, hS105, hk105, hZ105, hown105, lE105, lC105, lV105, lK105, la105, lb105, CS105, lL105, lne105, st105⟩ := ldcCH (s := s) (EL := consts_1) X104 hx hZ102 hown102 (wi hw 48 rfl) (fun d hd => hw d (own_strw d hd)) e104 hS102 hk102 (own_EW hw) (by decide) CR102.1 (vs := [(.int (108 : Int32)), (.int (105 : Int32)), (.int (110 : Int32)), (.int (107 : Int32)), (.int (101 : Int32)), (.int (100 : Int32))]) (z := (6 : Int32)) ⟨by decide, by decide⟩ (by decide) (by decide) (g := (mkF m 27 #[.val (.int p1), .val (.ref bw101), .unset, .unset] [])) rfl (hb hby at_27) (n := 24) (by decide) (by decide) (by decide) (by decide)
  have O105 := O102.ext E105
  have CR105 := CR102.trans CS105
  have KK105 : Keep h0 h105 [] := KK102.ext E105
  have lcd105 : StrChars.Road.CodA ([(108 : Int32), (105 : Int32), (110 : Int32), (107 : Int32), (101 : Int32), (100 : Int32)] : List Int32) 0 (6 : Int32) [(.int (108 : Int32)), (.int (105 : Int32)), (.int (110 : Int32)), (.int (107 : Int32)), (.int (101 : Int32)), (.int (100 : Int32))] := Or.inl ⟨rfl, rfl, rfl, by decide⟩
  have lhp105 : ∀ c ∈ ([(108 : Int32), (105 : Int32), (110 : Int32), (107 : Int32), (101 : Int32), (100 : Int32)] : List Int32), ¬ c < 0 ∧ ¬ (255 : Int32) < c := by decide
  have fV_bw101_3_106 := (fV_bw101_2_103.ext E105)
  obtain ⟨cl_bw101_36, Ar_bw101_36, q_bw101_36, S_bw101_36, N_bw101_36, H_bw101_36, G_bw101_36⟩ := id (fV_bw101_3_106)
  have hinbw101_36 : ¬ ((1 : Int32) < 0 ∨ cl_bw101_36.slots.size ≤ ((1 : Int32)).toNatClampNeg) := inb_of S_bw101_36 ⟨by decide, by decide⟩
  have hatbw101_36 : cl_bw101_36.slots[((1 : Int32)).toNatClampNeg]? = some (.ref s1) := H_bw101_36.at hinbw101_36 rfl
  obtain ⟨cq107, kq107, q107a, q107b, q107c⟩ := isOf hZ105 e105 lE105
  obtain ⟨_, _, ⟨T107, L107, k107, n107⟩, -, X107, ⟨Lc107, hQ107, l107, y107, z107⟩, st107⟩ := X105.virtualBack hx (y := (⟨"java/lang/String", "equals", "(Ljava/lang/Object;)Z"⟩ : MethodName)) (z := (⟨"java/lang/String", "equals", "(Ljava/lang/Object;)Z"⟩ : MethodName)) hown105 (mvT hZ105 (wi hw 35 rfl)) (mvT hZ105 (wi hw 36 rfl)) (notFace_of_selects (args := #[]) (mvT hZ105 (wi hw 38 rfl))) (mvT hZ105 (wi hw 38 rfl)) (mvT hZ105 (wi hw 37 rfl)) (by decide) (StrChars.Road.eqW (W := 0) hZ105 (fun d hd => hw d (own_w_eqW d hd)) (kI := 4) (wi hw 29 rfl) lE105 lV105 lC105 lK105 lcd105 (own_up _ lhp105) (by decide) (sEm1.ext O105.2) (sVm1.ext O105.2) (sCm1.ext O105.2) (sKm1.ext O105.2) scdm1 (own_up _ shpm1) shlm1 (S_CS.ext O105.2) hG1 (by decide) (by decide)) q107a q107c (g := (mkF m 32 #[.val (.int p1), .val (.ref bw101), .unset, .unset] [(.ref s1), (.ref a105)])) rfl (by rw [hml]; rfl) (Steps.refl _) (argsL := [(.ref s1)]) (rest := []) (lenOf pd_1 rfl) rfl (by show 2 * 0 + _ ≤ _; exact Nat.le_of_eq rfl) (hb hby at_32) (fun _ _ => ⟨rfl, e105, (by decide : 6 + 0 ≤ _), (by decide : 58 + 0 ≤ _)⟩)
  dsimp only [Pt.U, Pt.locs, Pt.cells, Pt.slots] at X107 l107 y107 z107 st107 hQ107
  subst l107 y107 z107
  obtain ⟨hv107, rfl, hh107⟩ := hQ107
  obtain rfl := (hv107.resolve_right (fun q => q.2 ((by decide) : ([(108 : Int32), (105 : Int32), (110 : Int32), (107 : Int32), (101 : Int32), (100 : Int32)] : List Int32) = ([(108 : Int32), (105 : Int32), (110 : Int32), (107 : Int32), (101 : Int32), (100 : Int32)] : List Int32)))).1
  have N107q : Fr n0 ([] : List Loc) := Fr.nil n0
  have e107 : T107.heap = h105 := hh107
  have N107 := Fr.app N104 N107q
  obtain ⟨a108, T108, h108, k108, b108, kb108, X108, e108, E108, hS108, hk108, hZ108, hown108, lE108, lC108, lV108, lK108, la108, lb108, CS108, lL108, lne108, st108⟩ := ldcCH (s := s) (EL := consts_1) X107 hx hZ105 hown105 (wi hw 49 rfl) (fun d hd => hw d (own_strw d hd)) e107 hS105 hk105 (own_EW hw) (by decide) CR105.1 (vs := [(.int (108 : Int32)), (.int (105 : Int32)), (.int (110 : Int32)), (.int (107 : Int32)), (.int (101 : Int32)), (.int (100 : Int32)), (.int (45 : Int32)), (.int (100 : Int32)), (.int (101 : Int32)), (.int (113 : Int32)), (.int (117 : Int32)), (.int (101 : Int32))]) (z := (12 : Int32)) ⟨by decide, by decide⟩ (by decide) (by decide) (g := (mkF m 38 #[.val (.int p1), .val (.ref bw101), .unset, .unset] [])) rfl (hb hby at_38) (n := 48) (by decide) (by decide) (by decide) (by decide)
  have O108 := O105.ext E108
  have CR108 := CR105.trans CS108
  have KK108 : Keep h0 h108 [] := KK105.ext E108
  have lcd108 : StrChars.Road.CodA ([(108 : Int32), (105 : Int32), (110 : Int32), (107 : Int32), (101 : Int32), (100 : Int32), (45 : Int32), (100 : Int32), (101 : Int32), (113 : Int32), (117 : Int32), (101 : Int32)] : List Int32) 0 (12 : Int32) [(.int (108 : Int32)), (.int (105 : Int32)), (.int (110 : Int32)), (.int (107 : Int32)), (.int (101 : Int32)), (.int (100 : Int32)), (.int (45 : Int32)), (.int (100 : Int32)), (.int (101 : Int32)), (.int (113 : Int32)), (.int (117 : Int32)), (.int (101 : Int32))] := Or.inl ⟨rfl, rfl, rfl, by decide⟩
  have lhp108 : ∀ c ∈ ([(108 : Int32), (105 : Int32), (110 : Int32), (107 : Int32), (101 : Int32), (100 : Int32), (45 : Int32), (100 : Int32), (101 : Int32), (113 : Int32), (117 : Int32), (101 : Int32)] : List Int32), ¬ c < 0 ∧ ¬ (255 : Int32) < c := by decide
  have fV_bw101_4_109 := (fV_bw101_3_106.ext E108)
  obtain ⟨cl_bw101_48, Ar_bw101_48, q_bw101_48, S_bw101_48, N_bw101_48, H_bw101_48, G_bw101_48⟩ := id (fV_bw101_4_109)
  have hinbw101_48 : ¬ ((2 : Int32) < 0 ∨ cl_bw101_48.slots.size ≤ ((2 : Int32)).toNatClampNeg) := inb_of S_bw101_48 ⟨by decide, by decide⟩
  have hatbw101_48 : cl_bw101_48.slots[((2 : Int32)).toNatClampNeg]? = some (.ref s2) := H_bw101_48.at hinbw101_48 rfl
  obtain ⟨cq110, kq110, q110a, q110b, q110c⟩ := isOf hZ108 e108 lE108
  obtain ⟨_, _, ⟨T110, L110, k110, n110⟩, -, X110, ⟨Lc110, hQ110, l110, y110, z110⟩, st110⟩ := X108.virtualBack hx (y := (⟨"java/lang/String", "equals", "(Ljava/lang/Object;)Z"⟩ : MethodName)) (z := (⟨"java/lang/String", "equals", "(Ljava/lang/Object;)Z"⟩ : MethodName)) hown108 (mvT hZ108 (wi hw 35 rfl)) (mvT hZ108 (wi hw 36 rfl)) (notFace_of_selects (args := #[]) (mvT hZ108 (wi hw 38 rfl))) (mvT hZ108 (wi hw 38 rfl)) (mvT hZ108 (wi hw 37 rfl)) (by decide) (StrChars.Road.eqW (W := 0) hZ108 (fun d hd => hw d (own_w_eqW d hd)) (kI := 4) (wi hw 29 rfl) lE108 lV108 lC108 lK108 lcd108 (own_up _ lhp108) (by decide) (sEm2.ext O108.2) (sVm2.ext O108.2) (sCm2.ext O108.2) (sKm2.ext O108.2) scdm2 (own_up _ shpm2) shlm2 (S_CS.ext O108.2) hG1 (by decide) (by decide)) q110a q110c (g := (mkF m 43 #[.val (.int p1), .val (.ref bw101), .unset, .unset] [(.ref s2), (.ref a108)])) rfl (by rw [hml]; rfl) (Steps.refl _) (argsL := [(.ref s2)]) (rest := []) (lenOf pd_1 rfl) rfl (by show 2 * 0 + _ ≤ _; exact Nat.le_of_eq rfl) (hb hby at_43) (fun _ _ => ⟨rfl, e108, (by decide : 8 + 0 ≤ _), (by decide : 110 + 0 ≤ _)⟩)
  dsimp only [Pt.U, Pt.locs, Pt.cells, Pt.slots] at X110 l110 y110 z110 st110 hQ110
  subst l110 y110 z110
  obtain ⟨hv110, rfl, hh110⟩ := hQ110
  obtain rfl := (hv110.resolve_right (fun q => q.2 ((by decide) : ([(108 : Int32), (105 : Int32), (110 : Int32), (107 : Int32), (101 : Int32), (100 : Int32), (45 : Int32), (100 : Int32), (101 : Int32), (113 : Int32), (117 : Int32), (101 : Int32)] : List Int32) = ([(108 : Int32), (105 : Int32), (110 : Int32), (107 : Int32), (101 : Int32), (100 : Int32), (45 : Int32), (100 : Int32), (101 : Int32), (113 : Int32), (117 : Int32), (101 : Int32)] : List Int32)))).1
  have N110q : Fr n0 ([] : List Loc) := Fr.nil n0
  have e110 : T110.heap = h108 := hh110
  have N110 := Fr.app N107 N110q
  obtain ⟨T111, X111, e111, st111⟩ := getS2 X110 hx hZ108 hown108 (host := "") (Or.inl (wi hw 50 rfl)) Via.refl e110 (S_K0.ext O108.2) (g := (mkF m 51 #[.val (.int p1), .val (.ref bw101), .unset, .unset] [])) rfl (hb hby at_51)
  obtain ⟨T112, X112, e112, st112⟩ := getF X111 hx hZ108 hown108 (host := "") (Or.inl (wi hw 51 rfl)) Via.refl e111 (M0.ext O108.2) (g := (mkF m 54 #[.val (.int p1), .val (.ref bw101), .unset, .unset] [(.ref w0)])) rfl rfl (hb hby at_54)
  obtain ⟨cl_bw101_62, Ar_bw101_62, q_bw101_62, S_bw101_62, N_bw101_62, H_bw101_62, G_bw101_62⟩ := id (fV_bw101_4_109)
  have hinbw101_62 : ¬ ((0 : Int32) < 0 ∨ cl_bw101_62.slots.size ≤ ((0 : Int32)).toNatClampNeg) := inb_of S_bw101_62 ⟨by decide, by decide⟩
  have hatbw101_62 : cl_bw101_62.slots[((0 : Int32)).toNatClampNeg]? = some (.ref s0) := H_bw101_62.at hinbw101_62 rfl
  obtain ⟨cq113, kq113, q113a, q113b, q113c⟩ := isOf hZ108 e112 (sEm0.ext O108.2)
  obtain ⟨_, _, ⟨T113, L113, k113, n113⟩, -, X113, ⟨Lc113, hQ113, l113, y113, z113⟩, st113⟩ := X112.virtualBack hx (y := (⟨"java/lang/String", "equals", "(Ljava/lang/Object;)Z"⟩ : MethodName)) (z := (⟨"java/lang/String", "equals", "(Ljava/lang/Object;)Z"⟩ : MethodName)) hown108 (mvT hZ108 (wi hw 35 rfl)) (mvT hZ108 (wi hw 36 rfl)) (notFace_of_selects (args := #[]) (mvT hZ108 (wi hw 38 rfl))) (mvT hZ108 (wi hw 38 rfl)) (mvT hZ108 (wi hw 37 rfl)) (by decide) (StrChars.Road.eqW (W := 0) hZ108 (fun d hd => hw d (own_w_eqW d hd)) (kI := 4) (wi hw 29 rfl) (sEm0.ext O108.2) (sVm0.ext O108.2) (sCm0.ext O108.2) (sKm0.ext O108.2) scdm0 (own_up _ shpm0) shlm0 (sEm0.ext O108.2) (sVm0.ext O108.2) (sCm0.ext O108.2) (sKm0.ext O108.2) scdm0 (own_up _ shpm0) shlm0 (S_CS.ext O108.2) hG1 (by decide) (by decide)) q113a q113c (g := (mkF m 60 #[.val (.int p1), .val (.ref bw101), .unset, .unset] [(.ref s0), (.ref s0)])) rfl (by rw [hml]; rfl) (Steps.refl _) (argsL := [(.ref s0)]) (rest := []) (lenOf pd_1 rfl) rfl (by show 2 * 0 + _ ≤ _; exact Nat.le_of_eq rfl) (hb hby at_60) (fun _ _ => ⟨rfl, e112, (by decide : 8 + 0 ≤ _), (by decide : 110 + 0 ≤ _)⟩)
  dsimp only [Pt.U, Pt.locs, Pt.cells, Pt.slots] at X113 l113 y113 z113 st113 hQ113
  subst l113 y113 z113
  obtain ⟨hv113, rfl, hh113⟩ := hQ113
  obtain rfl := (hv113.resolve_right (fun q => q.2 ((by decide) : ([(97 : Int32), (114 : Int32), (114 : Int32), (97 : Int32), (121 : Int32)] : List Int32) = ([(97 : Int32), (114 : Int32), (114 : Int32), (97 : Int32), (121 : Int32)] : List Int32)))).1
  have N113q : Fr n0 ([] : List Loc) := Fr.nil n0
  have e113 : T113.heap = h108 := hh113
  have N113 := Fr.app N110 N113q
  obtain ⟨T114, X114, e114, st114⟩ := getS2 X113 hx hZ108 hown108 (host := "") (Or.inl (wi hw 52 rfl)) Via.refl e113 (S_K1.ext O108.2) (g := (mkF m 66 #[.val (.int p1), .val (.ref bw101), .unset, .unset] [])) rfl (hb hby at_66)
  obtain ⟨T115, X115, e115, st115⟩ := getF X114 hx hZ108 hown108 (host := "") (Or.inl (wi hw 51 rfl)) Via.refl e114 (M1.ext O108.2) (g := (mkF m 69 #[.val (.int p1), .val (.ref bw101), .unset, .unset] [(.ref w1)])) rfl rfl (hb hby at_69)
  obtain ⟨cl_bw101_76, Ar_bw101_76, q_bw101_76, S_bw101_76, N_bw101_76, H_bw101_76, G_bw101_76⟩ := id (fV_bw101_4_109)
  have hinbw101_76 : ¬ ((1 : Int32) < 0 ∨ cl_bw101_76.slots.size ≤ ((1 : Int32)).toNatClampNeg) := inb_of S_bw101_76 ⟨by decide, by decide⟩
  have hatbw101_76 : cl_bw101_76.slots[((1 : Int32)).toNatClampNeg]? = some (.ref s1) := H_bw101_76.at hinbw101_76 rfl
  obtain ⟨cq116, kq116, q116a, q116b, q116c⟩ := isOf hZ108 e115 (sEm1.ext O108.2)
  obtain ⟨_, _, ⟨T116, L116, k116, n116⟩, -, X116, ⟨Lc116, hQ116, l116, y116, z116⟩, st116⟩ := X115.virtualBack hx (y := (⟨"java/lang/String", "equals", "(Ljava/lang/Object;)Z"⟩ : MethodName)) (z := (⟨"java/lang/String", "equals", "(Ljava/lang/Object;)Z"⟩ : MethodName)) hown108 (mvT hZ108 (wi hw 35 rfl)) (mvT hZ108 (wi hw 36 rfl)) (notFace_of_selects (args := #[]) (mvT hZ108 (wi hw 38 rfl))) (mvT hZ108 (wi hw 38 rfl)) (mvT hZ108 (wi hw 37 rfl)) (by decide) (StrChars.Road.eqW (W := 0) hZ108 (fun d hd => hw d (own_w_eqW d hd)) (kI := 4) (wi hw 29 rfl) (sEm1.ext O108.2) (sVm1.ext O108.2) (sCm1.ext O108.2) (sKm1.ext O108.2) scdm1 (own_up _ shpm1) shlm1 (sEm1.ext O108.2) (sVm1.ext O108.2) (sCm1.ext O108.2) (sKm1.ext O108.2) scdm1 (own_up _ shpm1) shlm1 (S_CS.ext O108.2) hG1 (by decide) (by decide)) q116a q116c (g := (mkF m 75 #[.val (.int p1), .val (.ref bw101), .unset, .unset] [(.ref s1), (.ref s1)])) rfl (by rw [hml]; rfl) (Steps.refl _) (argsL := [(.ref s1)]) (rest := []) (lenOf pd_1 rfl) rfl (by show 2 * 0 + _ ≤ _; exact Nat.le_of_eq rfl) (hb hby at_75) (fun _ _ => ⟨rfl, e115, (by decide : 8 + 0 ≤ _), (by decide : 110 + 0 ≤ _)⟩)
  dsimp only [Pt.U, Pt.locs, Pt.cells, Pt.slots] at X116 l116 y116 z116 st116 hQ116
  subst l116 y116 z116
  obtain ⟨hv116, rfl, hh116⟩ := hQ116
  obtain rfl := (hv116.resolve_right (fun q => q.2 ((by decide) : ([(108 : Int32), (105 : Int32), (110 : Int32), (107 : Int32), (101 : Int32), (100 : Int32)] : List Int32) = ([(108 : Int32), (105 : Int32), (110 : Int32), (107 : Int32), (101 : Int32), (100 : Int32)] : List Int32)))).1
  have N116q : Fr n0 ([] : List Loc) := Fr.nil n0
  have e116 : T116.heap = h108 := hh116
  have N116 := Fr.app N113 N116q
  obtain ⟨T117, X117, e117, st117⟩ := getS2 X116 hx hZ108 hown108 (host := "") (Or.inl (wi hw 53 rfl)) Via.refl e116 (S_K2.ext O108.2) (g := (mkF m 81 #[.val (.int p1), .val (.ref bw101), .unset, .unset] [])) rfl (hb hby at_81)
  obtain ⟨T118, X118, e118, st118⟩ := getF X117 hx hZ108 hown108 (host := "") (Or.inl (wi hw 51 rfl)) Via.refl e117 (M2.ext O108.2) (g := (mkF m 84 #[.val (.int p1), .val (.ref bw101), .unset, .unset] [(.ref w2)])) rfl rfl (hb hby at_84)
  obtain ⟨cl_bw101_90, Ar_bw101_90, q_bw101_90, S_bw101_90, N_bw101_90, H_bw101_90, G_bw101_90⟩ := id (fV_bw101_4_109)
  have hinbw101_90 : ¬ ((2 : Int32) < 0 ∨ cl_bw101_90.slots.size ≤ ((2 : Int32)).toNatClampNeg) := inb_of S_bw101_90 ⟨by decide, by decide⟩
  have hatbw101_90 : cl_bw101_90.slots[((2 : Int32)).toNatClampNeg]? = some (.ref s2) := H_bw101_90.at hinbw101_90 rfl
  obtain ⟨cq119, kq119, q119a, q119b, q119c⟩ := isOf hZ108 e118 (sEm2.ext O108.2)
  obtain ⟨_, _, ⟨T119, L119, k119, n119⟩, -, X119, ⟨Lc119, hQ119, l119, y119, z119⟩, st119⟩ := X118.virtualBack hx (y := (⟨"java/lang/String", "equals", "(Ljava/lang/Object;)Z"⟩ : MethodName)) (z := (⟨"java/lang/String", "equals", "(Ljava/lang/Object;)Z"⟩ : MethodName)) hown108 (mvT hZ108 (wi hw 35 rfl)) (mvT hZ108 (wi hw 36 rfl)) (notFace_of_selects (args := #[]) (mvT hZ108 (wi hw 38 rfl))) (mvT hZ108 (wi hw 38 rfl)) (mvT hZ108 (wi hw 37 rfl)) (by decide) (StrChars.Road.eqW (W := 0) hZ108 (fun d hd => hw d (own_w_eqW d hd)) (kI := 4) (wi hw 29 rfl) (sEm2.ext O108.2) (sVm2.ext O108.2) (sCm2.ext O108.2) (sKm2.ext O108.2) scdm2 (own_up _ shpm2) shlm2 (sEm2.ext O108.2) (sVm2.ext O108.2) (sCm2.ext O108.2) (sKm2.ext O108.2) scdm2 (own_up _ shpm2) shlm2 (S_CS.ext O108.2) hG1 (by decide) (by decide)) q119a q119c (g := (mkF m 90 #[.val (.int p1), .val (.ref bw101), .unset, .unset] [(.ref s2), (.ref s2)])) rfl (by rw [hml]; rfl) (Steps.refl _) (argsL := [(.ref s2)]) (rest := []) (lenOf pd_1 rfl) rfl (by show 2 * 0 + _ ≤ _; exact Nat.le_of_eq rfl) (hb hby at_90) (fun _ _ => ⟨rfl, e118, (by decide : 8 + 0 ≤ _), (by decide : 110 + 0 ≤ _)⟩)
  dsimp only [Pt.U, Pt.locs, Pt.cells, Pt.slots] at X119 l119 y119 z119 st119 hQ119
  subst l119 y119 z119
  obtain ⟨hv119, rfl, hh119⟩ := hQ119
  obtain rfl := (hv119.resolve_right (fun q => q.2 ((by decide) : ([(108 : Int32), (105 : Int32), (110 : Int32), (107 : Int32), (101 : Int32), (100 : Int32), (45 : Int32), (100 : Int32), (101 : Int32), (113 : Int32), (117 : Int32), (101 : Int32)] : List Int32) = ([(108 : Int32), (105 : Int32), (110 : Int32), (107 : Int32), (101 : Int32), (100 : Int32), (45 : Int32), (100 : Int32), (101 : Int32), (113 : Int32), (117 : Int32), (101 : Int32)] : List Int32)))).1
  have N119q : Fr n0 ([] : List Loc) := Fr.nil n0
  have e119 : T119.heap = h108 := hh119
  have N119 := Fr.app N116 N119q
  obtain ⟨T120, X120, e120, st120⟩ := getS2 X119 hx hZ108 hown108 (host := "") (Or.inl (wi hw 50 rfl)) Via.refl e119 (S_K0.ext O108.2) (g := (mkF m 109 #[.val (.int p1), .val (.ref bw101), .val (.int (0 : Int32)), .unset] [])) rfl (hb hby at_109)
  obtain ⟨cl_bw101_124, Ar_bw101_124, q_bw101_124, S_bw101_124, N_bw101_124, H_bw101_124, G_bw101_124⟩ := id (fV_bw101_4_109)
  have hinbw101_124 : ¬ ((0 : Int32) < 0 ∨ cl_bw101_124.slots.size ≤ ((0 : Int32)).toNatClampNeg) := inb_of S_bw101_124 ⟨by decide, by decide⟩
  have hatbw101_124 : cl_bw101_124.slots[((0 : Int32)).toNatClampNeg]? = some (.ref s0) := H_bw101_124.at hinbw101_124 rfl
  obtain ⟨_, _, ⟨T121, L121, k121, n121⟩, -, X121, ⟨Lc121, hQ121, l121, y121, z121⟩, st121⟩ := Jvm.LawKit.callS X120 hx (y := (⟨"dev/tryst/tool/Workload$QueueKind", "of", "(Ljava/lang/String;)Ldev/tryst/tool/Workload$QueueKind;"⟩ : MethodName)) hown108 (mvT hZ108 (wi hw 55 rfl)) (mvT hZ108 (wi hw 56 rfl)) (mvT hZ108 (wi hw 2 rfl)) (mvT hZ108 (wi hw 57 rfl)) (by decide) (backOf (W := 0) (rm7_0 l Z a0 hw [] G1 kV wV w0 w1 w2 s0 s1 s2 h108 n0 O108 S_CS hG1 S_V A_V E_V M0 M1 M2 T0 T1 T2) hZ108 (wi hw 57 rfl) (wi hw 2 rfl) (by decide) (by decide)) (g := (mkF m 135 #[.val (.int p1), .val (.ref bw101), .val (.int (0 : Int32)), .val (.ref w0)] [(.ref s0)])) rfl (by rw [hml]; rfl) (argsL := [(.ref s0)]) (rest := []) (lenOf pd_3 rfl) rfl (by show 2 * 0 + _ ≤ _; exact Nat.le_of_eq rfl) (hb hby at_135) (fun _ _ => ⟨rfl, e120, (by decide : 8 + 1 ≤ _), (by decide : 110 + 3 ≤ _)⟩)
  dsimp only [Pt.U, Pt.locs, Pt.cells, Pt.slots] at X121 l121 y121 z121 st121 hQ121
  subst l121 y121 z121
  obtain ⟨rfl, N121q, K121⟩ := hQ121
  obtain ⟨h121, e121⟩ : ∃ z, T121.heap = z := ⟨_, rfl⟩
  rw [e121] at K121
  have O121 := O108.keep K121 all0
  have CS121 := CHr.keep K121 sf0 CR108.1
  have CR121 := CR108.trans CS121
  have KK121 : Keep h0 h121 [] := KK108.trans K121 all0
  have N121 := Fr.app N119 N121q
  obtain ⟨fs, hr, hrun, hended, hREW⟩ := X121.leaveW hS108 (by rw [e121]; exact (Nat.le_trans hk108 K121.1)) (v := some (.int (1 : Int32))) (fun h => by rw [Bd.returns] at h; cases h)
  refine ⟨_, _, pre0 _ ?_, hrun, hended, _, _, rfl, ?_, (by rw [hh]; show CHr Z consts_1 s.vm h0 T121.vm T121.heap; rw [e121]; exact CR121.trans (CHv.at X121 hZ108 (own_EW hw) CR121.1)), hREW.1, hREW.2.1, hREW.2.2.1, hREW.2.2.2.mono (by decide) (by decide)⟩
  · show Steps p.tables e below (s₁.setTop (mkF m 0 #[.val (.int p1), .unset, .unset, .unset] [])) _
    refine st101 _ ?_
    show Steps p.tables e below (T101.setTop (mkF m 3 #[.val (.int p1), .unset, .unset, .unset] [(.ref bw101)])) _
    refine XS.astoreN X101.here hx rfl (hb hby at_3) rfl rfl (l' := #[.val (.int p1), .val (.ref bw101), .unset, .unset]) rfl ?_
    show Steps p.tables e below (T101.setTop (mkF m 4 #[.val (.int p1), .val (.ref bw101), .unset, .unset] [])) _
    refine XS.aloadN X101.here hx rfl (hb hby at_4) rfl rfl ?_
    show Steps p.tables e below (T101.setTop (mkF m 5 #[.val (.int p1), .val (.ref bw101), .unset, .unset] [(.ref bw101)])) _
    refine XS.ifnullNo X101.here hx rfl (hb hby at_5) rfl ?_
    show Steps p.tables e below (T101.setTop (mkF m 8 #[.val (.int p1), .val (.ref bw101), .unset, .unset] [])) _
    refine XS.aloadN X101.here hx rfl (hb hby at_8) rfl rfl ?_
    show Steps p.tables e below (T101.setTop (mkF m 9 #[.val (.int p1), .val (.ref bw101), .unset, .unset] [(.ref bw101)])) _
    refine X101.arraylength hx (by rw [e101]; exact Ar_bw101_11.1) (State.isArrayOf_alike hZ.alike Ar_bw101_11.2.1) (g := (mkF m 9 #[.val (.int p1), .val (.ref bw101), .unset, .unset] [(.ref bw101)])) rfl rfl (hb hby at_9) _ ?_
    rw [len_of S_bw101_11 N_bw101_11]
    show Steps p.tables e below (T101.setTop (mkF m 10 #[.val (.int p1), .val (.ref bw101), .unset, .unset] [(.int (3 : Int32))])) _
    refine XS.iconst X101.here hx rfl (hb hby at_10) ?_
    show Steps p.tables e below (T101.setTop (mkF m 11 #[.val (.int p1), .val (.ref bw101), .unset, .unset] [(.int (3 : Int32)), (.int (3 : Int32))])) _
    refine XS.icmpYes X101.here hx rfl (pc0 := 11) (pc' := 16) rfl (hb hby at_11) rfl (teq (by decide : (3 : Int32) = (3 : Int32))).1 (by decide) (by decide) ?_
    show Steps p.tables e below (T101.setTop (mkF m 16 #[.val (.int p1), .val (.ref bw101), .unset, .unset] [])) _
    refine st102 _ ?_
    show Steps p.tables e below (T102.setTop (mkF m 18 #[.val (.int p1), .val (.ref bw101), .unset, .unset] [(.ref a102)])) _
    refine XS.aloadN X102.here hx rfl (hb hby at_18) rfl rfl ?_
    show Steps p.tables e below (T102.setTop (mkF m 19 #[.val (.int p1), .val (.ref bw101), .unset, .unset] [(.ref bw101), (.ref a102)])) _
    refine XS.iconst X102.here hx rfl (hb hby at_19) ?_
    show Steps p.tables e below (T102.setTop (mkF m 20 #[.val (.int p1), .val (.ref bw101), .unset, .unset] [(.int (0 : Int32)), (.ref bw101), (.ref a102)])) _
    refine X102.aaload hx (j := (0 : Int32)) (v := (.ref s0)) (by rw [e102]; exact Ar_bw101_24.1) (State.isArrayOf_alike hZ102.alike Ar_bw101_24.2.1) rfl Ar_bw101_24.2.2 hinbw101_24 hatbw101_24 (g := (mkF m 20 #[.val (.int p1), .val (.ref bw101), .unset, .unset] [(.int (0 : Int32)), (.ref bw101), (.ref a102)])) rfl rfl (hb hby at_20) _ ?_
    show Steps p.tables e below (T102.setTop (mkF m 21 #[.val (.int p1), .val (.ref bw101), .unset, .unset] [(.ref s0), (.ref a102)])) _
    refine st104.trans ?_
    show Steps p.tables e below (T104.setTop (mkF m 24 #[.val (.int p1), .val (.ref bw101), .unset, .unset] [(.int (1 : Int32))])) _
    refine XS.ifNo X104.here hx rfl (hb hby at_24) rfl ((if0 _ _).trans (feq (by decide : ¬ ((1 : Int32) = (0 : Int32)))).1) ?_
    show Steps p.tables e below (T104.setTop (mkF m 27 #[.val (.int p1), .val (.ref bw101), .unset, .unset] [])) _
    refine st105 _ ?_
    show Steps p.tables e below (T105.setTop (mkF m 29 #[.val (.int p1), .val (.ref bw101), .unset, .unset] [(.ref a105)])) _
    refine XS.aloadN X105.here hx rfl (hb hby at_29) rfl rfl ?_
    show Steps p.tables e below (T105.setTop (mkF m 30 #[.val (.int p1), .val (.ref bw101), .unset, .unset] [(.ref bw101), (.ref a105)])) _
    refine XS.iconst X105.here hx rfl (hb hby at_30) ?_
    show Steps p.tables e below (T105.setTop (mkF m 31 #[.val (.int p1), .val (.ref bw101), .unset, .unset] [(.int (1 : Int32)), (.ref bw101), (.ref a105)])) _
    refine X105.aaload hx (j := (1 : Int32)) (v := (.ref s1)) (by rw [e105]; exact Ar_bw101_36.1) (State.isArrayOf_alike hZ105.alike Ar_bw101_36.2.1) rfl Ar_bw101_36.2.2 hinbw101_36 hatbw101_36 (g := (mkF m 31 #[.val (.int p1), .val (.ref bw101), .unset, .unset] [(.int (1 : Int32)), (.ref bw101), (.ref a105)])) rfl rfl (hb hby at_31) _ ?_
    show Steps p.tables e below (T105.setTop (mkF m 32 #[.val (.int p1), .val (.ref bw101), .unset, .unset] [(.ref s1), (.ref a105)])) _
    refine st107.trans ?_
    show Steps p.tables e below (T107.setTop (mkF m 35 #[.val (.int p1), .val (.ref bw101), .unset, .unset] [(.int (1 : Int32))])) _
    refine XS.ifNo X107.here hx rfl (hb hby at_35) rfl ((if0 _ _).trans (feq (by decide : ¬ ((1 : Int32) = (0 : Int32)))).1) ?_
    show Steps p.tables e below (T107.setTop (mkF m 38 #[.val (.int p1), .val (.ref bw101), .unset, .unset] [])) _
    refine st108 _ ?_
    show Steps p.tables e below (T108.setTop (mkF m 40 #[.val (.int p1), .val (.ref bw101), .unset, .unset] [(.ref a108)])) _
    refine XS.aloadN X108.here hx rfl (hb hby at_40) rfl rfl ?_
    show Steps p.tables e below (T108.setTop (mkF m 41 #[.val (.int p1), .val (.ref bw101), .unset, .unset] [(.ref bw101), (.ref a108)])) _
    refine XS.iconst X108.here hx rfl (hb hby at_41) ?_
    show Steps p.tables e below (T108.setTop (mkF m 42 #[.val (.int p1), .val (.ref bw101), .unset, .unset] [(.int (2 : Int32)), (.ref bw101), (.ref a108)])) _
    refine X108.aaload hx (j := (2 : Int32)) (v := (.ref s2)) (by rw [e108]; exact Ar_bw101_48.1) (State.isArrayOf_alike hZ108.alike Ar_bw101_48.2.1) rfl Ar_bw101_48.2.2 hinbw101_48 hatbw101_48 (g := (mkF m 42 #[.val (.int p1), .val (.ref bw101), .unset, .unset] [(.int (2 : Int32)), (.ref bw101), (.ref a108)])) rfl rfl (hb hby at_42) _ ?_
    show Steps p.tables e below (T108.setTop (mkF m 43 #[.val (.int p1), .val (.ref bw101), .unset, .unset] [(.ref s2), (.ref a108)])) _
    refine st110.trans ?_
    show Steps p.tables e below (T110.setTop (mkF m 46 #[.val (.int p1), .val (.ref bw101), .unset, .unset] [(.int (1 : Int32))])) _
    refine XS.ifYes X110.here hx rfl (pc0 := 46) (pc' := 51) rfl (hb hby at_46) rfl ((if0 _ _).trans (feq (by decide : ¬ ((1 : Int32) = (0 : Int32)))).2) (by decide) (by decide) ?_
    show Steps p.tables e below (T110.setTop (mkF m 51 #[.val (.int p1), .val (.ref bw101), .unset, .unset] [])) _
    refine st111 _ ?_
    show Steps p.tables e below (T111.setTop (mkF m 54 #[.val (.int p1), .val (.ref bw101), .unset, .unset] [(.ref w0)])) _
    refine st112 _ ?_
    show Steps p.tables e below (T112.setTop (mkF m 57 #[.val (.int p1), .val (.ref bw101), .unset, .unset] [(.ref s0)])) _
    refine XS.aloadN X112.here hx rfl (hb hby at_57) rfl rfl ?_
    show Steps p.tables e below (T112.setTop (mkF m 58 #[.val (.int p1), .val (.ref bw101), .unset, .unset] [(.ref bw101), (.ref s0)])) _
    refine XS.iconst X112.here hx rfl (hb hby at_58) ?_
    show Steps p.tables e below (T112.setTop (mkF m 59 #[.val (.int p1), .val (.ref bw101), .unset, .unset] [(.int (0 : Int32)), (.ref bw101), (.ref s0)])) _
    refine X112.aaload hx (j := (0 : Int32)) (v := (.ref s0)) (by rw [e112]; exact Ar_bw101_62.1) (State.isArrayOf_alike hZ108.alike Ar_bw101_62.2.1) rfl Ar_bw101_62.2.2 hinbw101_62 hatbw101_62 (g := (mkF m 59 #[.val (.int p1), .val (.ref bw101), .unset, .unset] [(.int (0 : Int32)), (.ref bw101), (.ref s0)])) rfl rfl (hb hby at_59) _ ?_
    show Steps p.tables e below (T112.setTop (mkF m 60 #[.val (.int p1), .val (.ref bw101), .unset, .unset] [(.ref s0), (.ref s0)])) _
    refine st113.trans ?_
    show Steps p.tables e below (T113.setTop (mkF m 63 #[.val (.int p1), .val (.ref bw101), .unset, .unset] [(.int (1 : Int32))])) _
    refine XS.ifNo X113.here hx rfl (hb hby at_63) rfl ((if0 _ _).trans (feq (by decide : ¬ ((1 : Int32) = (0 : Int32)))).1) ?_
    show Steps p.tables e below (T113.setTop (mkF m 66 #[.val (.int p1), .val (.ref bw101), .unset, .unset] [])) _
    refine st114 _ ?_
    show Steps p.tables e below (T114.setTop (mkF m 69 #[.val (.int p1), .val (.ref bw101), .unset, .unset] [(.ref w1)])) _
    refine st115 _ ?_
    show Steps p.tables e below (T115.setTop (mkF m 72 #[.val (.int p1), .val (.ref bw101), .unset, .unset] [(.ref s1)])) _
    refine XS.aloadN X115.here hx rfl (hb hby at_72) rfl rfl ?_
    show Steps p.tables e below (T115.setTop (mkF m 73 #[.val (.int p1), .val (.ref bw101), .unset, .unset] [(.ref bw101), (.ref s1)])) _
    refine XS.iconst X115.here hx rfl (hb hby at_73) ?_
    show Steps p.tables e below (T115.setTop (mkF m 74 #[.val (.int p1), .val (.ref bw101), .unset, .unset] [(.int (1 : Int32)), (.ref bw101), (.ref s1)])) _
    refine X115.aaload hx (j := (1 : Int32)) (v := (.ref s1)) (by rw [e115]; exact Ar_bw101_76.1) (State.isArrayOf_alike hZ108.alike Ar_bw101_76.2.1) rfl Ar_bw101_76.2.2 hinbw101_76 hatbw101_76 (g := (mkF m 74 #[.val (.int p1), .val (.ref bw101), .unset, .unset] [(.int (1 : Int32)), (.ref bw101), (.ref s1)])) rfl rfl (hb hby at_74) _ ?_
    show Steps p.tables e below (T115.setTop (mkF m 75 #[.val (.int p1), .val (.ref bw101), .unset, .unset] [(.ref s1), (.ref s1)])) _
    refine st116.trans ?_
    show Steps p.tables e below (T116.setTop (mkF m 78 #[.val (.int p1), .val (.ref bw101), .unset, .unset] [(.int (1 : Int32))])) _
    refine XS.ifNo X116.here hx rfl (hb hby at_78) rfl ((if0 _ _).trans (feq (by decide : ¬ ((1 : Int32) = (0 : Int32)))).1) ?_
    show Steps p.tables e below (T116.setTop (mkF m 81 #[.val (.int p1), .val (.ref bw101), .unset, .unset] [])) _
    refine st117 _ ?_
    show Steps p.tables e below (T117.setTop (mkF m 84 #[.val (.int p1), .val (.ref bw101), .unset, .unset] [(.ref w2)])) _
    refine st118 _ ?_
    show Steps p.tables e below (T118.setTop (mkF m 87 #[.val (.int p1), .val (.ref bw101), .unset, .unset] [(.ref s2)])) _
    refine XS.aloadN X118.here hx rfl (hb hby at_87) rfl rfl ?_
    show Steps p.tables e below (T118.setTop (mkF m 88 #[.val (.int p1), .val (.ref bw101), .unset, .unset] [(.ref bw101), (.ref s2)])) _
    refine XS.iconst X118.here hx rfl (hb hby at_88) ?_
    show Steps p.tables e below (T118.setTop (mkF m 89 #[.val (.int p1), .val (.ref bw101), .unset, .unset] [(.int (2 : Int32)), (.ref bw101), (.ref s2)])) _
    refine X118.aaload hx (j := (2 : Int32)) (v := (.ref s2)) (by rw [e118]; exact Ar_bw101_90.1) (State.isArrayOf_alike hZ108.alike Ar_bw101_90.2.1) rfl Ar_bw101_90.2.2 hinbw101_90 hatbw101_90 (g := (mkF m 89 #[.val (.int p1), .val (.ref bw101), .unset, .unset] [(.int (2 : Int32)), (.ref bw101), (.ref s2)])) rfl rfl (hb hby at_89) _ ?_
    show Steps p.tables e below (T118.setTop (mkF m 90 #[.val (.int p1), .val (.ref bw101), .unset, .unset] [(.ref s2), (.ref s2)])) _
    refine st119.trans ?_
    show Steps p.tables e below (T119.setTop (mkF m 93 #[.val (.int p1), .val (.ref bw101), .unset, .unset] [(.int (1 : Int32))])) _
    refine XS.ifYes X119.here hx rfl (pc0 := 93) (pc' := 98) rfl (hb hby at_93) rfl ((if0 _ _).trans (feq (by decide : ¬ ((1 : Int32) = (0 : Int32)))).2) (by decide) (by decide) ?_
    show Steps p.tables e below (T119.setTop (mkF m 98 #[.val (.int p1), .val (.ref bw101), .unset, .unset] [])) _
    refine XS.iloadN X119.here hx rfl (hb hby at_98) rfl ?_
    show Steps p.tables e below (T119.setTop (mkF m 99 #[.val (.int p1), .val (.ref bw101), .unset, .unset] [(.int p1)])) _
    refine X119.ldcInt hx hown108 (mvT hZ108 (wi hw 54 rfl)) (g := (mkF m 99 #[.val (.int p1), .val (.ref bw101), .unset, .unset] [(.int p1)])) rfl (hb hby at_99) _ ?_
    show Steps p.tables e below (T119.setTop (mkF m 101 #[.val (.int p1), .val (.ref bw101), .unset, .unset] [(.int (2147483647 : Int32)), (.int p1)])) _
    refine XS.iand X119.here hx rfl (hb hby at_101) rfl ?_
    show Steps p.tables e below (T119.setTop (mkF m 102 #[.val (.int p1), .val (.ref bw101), .unset, .unset] [(.int (p1 &&& (2147483647 : Int32)))])) _
    refine XS.iconst X119.here hx rfl (hb hby at_102) ?_
    show Steps p.tables e below (T119.setTop (mkF m 103 #[.val (.int p1), .val (.ref bw101), .unset, .unset] [(.int (3 : Int32)), (.int (p1 &&& (2147483647 : Int32)))])) _
    refine XS.irem X119.here hx rfl (hb hby at_103) rfl (by decide) ?_
    show Steps p.tables e below (T119.setTop (mkF m 104 #[.val (.int p1), .val (.ref bw101), .unset, .unset] [(.int (irm (p1 &&& (2147483647 : Int32)) (3 : Int32)))])) _
    rw [kk]
    show Steps p.tables e below (T119.setTop (mkF m 104 #[.val (.int p1), .val (.ref bw101), .unset, .unset] [(.int (0 : Int32))])) _
    refine XS.istoreN X119.here hx rfl (hb hby at_104) rfl (l' := #[.val (.int p1), .val (.ref bw101), .val (.int (0 : Int32)), .unset]) rfl ?_
    show Steps p.tables e below (T119.setTop (mkF m 105 #[.val (.int p1), .val (.ref bw101), .val (.int (0 : Int32)), .unset] [])) _
    refine XS.iloadN X119.here hx rfl (hb hby at_105) rfl ?_
    show Steps p.tables e below (T119.setTop (mkF m 106 #[.val (.int p1), .val (.ref bw101), .val (.int (0 : Int32)), .unset] [(.int (0 : Int32))])) _
    refine XS.ifNo X119.here hx rfl (hb hby at_106) rfl ((if0 _ _).trans (teq (by decide : (0 : Int32) = (0 : Int32))).2) ?_
    show Steps p.tables e below (T119.setTop (mkF m 109 #[.val (.int p1), .val (.ref bw101), .val (.int (0 : Int32)), .unset] [])) _
    refine st120 _ ?_
    show Steps p.tables e below (T120.setTop (mkF m 112 #[.val (.int p1), .val (.ref bw101), .val (.int (0 : Int32)), .unset] [(.ref w0)])) _
    refine XS.astoreN X120.here hx rfl (hb hby at_112) rfl rfl (l' := #[.val (.int p1), .val (.ref bw101), .val (.int (0 : Int32)), .val (.ref w0)]) rfl ?_
    show Steps p.tables e below (T120.setTop (mkF m 113 #[.val (.int p1), .val (.ref bw101), .val (.int (0 : Int32)), .val (.ref w0)] [])) _
    refine XS.goto X120.here hx rfl (pc0 := 113) (pc' := 132) rfl (hb hby at_113) (by decide) (by decide) ?_
    show Steps p.tables e below (T120.setTop (mkF m 132 #[.val (.int p1), .val (.ref bw101), .val (.int (0 : Int32)), .val (.ref w0)] [])) _
    refine XS.aloadN X120.here hx rfl (hb hby at_132) rfl rfl ?_
    show Steps p.tables e below (T120.setTop (mkF m 133 #[.val (.int p1), .val (.ref bw101), .val (.int (0 : Int32)), .val (.ref w0)] [(.ref bw101)])) _
    refine XS.iloadN X120.here hx rfl (hb hby at_133) rfl ?_
    show Steps p.tables e below (T120.setTop (mkF m 134 #[.val (.int p1), .val (.ref bw101), .val (.int (0 : Int32)), .val (.ref w0)] [(.int (0 : Int32)), (.ref bw101)])) _
    refine X120.aaload hx (j := (0 : Int32)) (v := (.ref s0)) (by rw [e120]; exact Ar_bw101_124.1) (State.isArrayOf_alike hZ108.alike Ar_bw101_124.2.1) rfl Ar_bw101_124.2.2 hinbw101_124 hatbw101_124 (g := (mkF m 134 #[.val (.int p1), .val (.ref bw101), .val (.int (0 : Int32)), .val (.ref w0)] [(.int (0 : Int32)), (.ref bw101)])) rfl rfl (hb hby at_134) _ ?_
    show Steps p.tables e below (T120.setTop (mkF m 135 #[.val (.int p1), .val (.ref bw101), .val (.int (0 : Int32)), .val (.ref w0)] [(.ref s0)])) _
    refine st121 _ ?_
    show Steps p.tables e below (T121.setTop (mkF m 138 #[.val (.int p1), .val (.ref bw101), .val (.int (0 : Int32)), .val (.ref w0)] [(.ref w0)])) _
    refine XS.aloadN X121.here hx rfl (hb hby at_138) rfl rfl ?_
    show Steps p.tables e below (T121.setTop (mkF m 139 #[.val (.int p1), .val (.ref bw101), .val (.int (0 : Int32)), .val (.ref w0)] [(.ref w0), (.ref w0)])) _
    refine Jvm.RoadKit.acmp (g := (mkF m 139 #[.val (.int p1), .val (.ref bw101), .val (.int (0 : Int32)), .val (.ref w0)] [(.ref w0), (.ref w0)])) X121 hx rfl rfl rfl (pc0 := 139) (pc' := 142) (same := true) rfl (hb hby at_139) rfl (decide_eq_true rfl) (by decide) (by decide) ?_
    show Steps p.tables e below (T121.setTop (mkF m 142 #[.val (.int p1), .val (.ref bw101), .val (.int (0 : Int32)), .val (.ref w0)] [])) _
    refine XS.iconst X121.here hx rfl (hb hby at_142) ?_
    show Steps p.tables e below (T121.setTop (mkF m 143 #[.val (.int p1), .val (.ref bw101), .val (.int (0 : Int32)), .val (.ref w0)] [(.int (1 : Int32))])) _
    refine XS.goto X121.here hx rfl (pc0 := 143) (pc' := 147) rfl (hb hby at_143) (by decide) (by decide) ?_
    show Steps p.tables e below (T121.setTop (mkF m 147 #[.val (.int p1), .val (.ref bw101), .val (.int (0 : Int32)), .val (.ref w0)] [(.int (1 : Int32))])) _
    exact retN X121 hx (t := .boolean) Bd.returns (by simp) (hb hby at_147) hr
  · show Q0 h0 n0 _ T121.heap _
    rw [e121]
    exact ⟨rfl, N121⟩
set_option maxRecDepth 65536 in
set_option maxHeartbeats 40000000 in
theorem rm0_1 (l : Launch) (Z : State) (a0 : Array Value) (hw : ∀ d ∈ tables_1, d.before a0 Z = true) (ws : List Jvm.Cond) (p1 : Int32) (G1 : Int32) (kV : ClassId) (wV w0 w1 w2 : Addr) (s0 s1 s2 : Addr) (h0 : Heap) (n0 : Nat) (O0 : Old Z n0 h0) (S_CS : Sta Z Z.heap "java/lang/String" "COMPACT_STRINGS" "Z" (.int G1)) (hG1 : ¬ (G1 = (0 : Int32))) (S_V : Sta Z Z.heap "dev/tryst/tool/Workload$QueueKind" "$VALUES" "[Ldev/tryst/tool/Workload$QueueKind;" (.ref wV)) (A_V : Arv Z Z.heap wV kV (.object "dev/tryst/tool/Workload$QueueKind") (3 : Int32) [(.ref w0), (.ref w1), (.ref w2)] .null) (E_V : Exa Z Z.heap wV "[Ldev/tryst/tool/Workload$QueueKind;") (M0 : Fld Z Z.heap w0 "dev/tryst/tool/Workload$QueueKind" "mWord" "Ljava/lang/String;" (.ref s0)) (M1 : Fld Z Z.heap w1 "dev/tryst/tool/Workload$QueueKind" "mWord" "Ljava/lang/String;" (.ref s1)) (M2 : Fld Z Z.heap w2 "dev/tryst/tool/Workload$QueueKind" "mWord" "Ljava/lang/String;" (.ref s2)) (T0 : Str Z Z.heap s0 ([(97 : Int32), (114 : Int32), (114 : Int32), (97 : Int32), (121 : Int32)] : List Int32)) (T1 : Str Z Z.heap s1 ([(108 : Int32), (105 : Int32), (110 : Int32), (107 : Int32), (101 : Int32), (100 : Int32)] : List Int32)) (T2 : Str Z Z.heap s2 ([(108 : Int32), (105 : Int32), (110 : Int32), (107 : Int32), (101 : Int32), (100 : Int32), (45 : Int32), (100 : Int32), (101 : Int32), (113 : Int32), (117 : Int32), (101 : Int32)] : List Int32)) (S_K0 : Sta Z Z.heap "dev/tryst/tool/Workload$QueueKind" "ARRAY" "Ldev/tryst/tool/Workload$QueueKind;" (.ref w0)) (S_K1 : Sta Z Z.heap "dev/tryst/tool/Workload$QueueKind" "LINKED" "Ldev/tryst/tool/Workload$QueueKind;" (.ref w1)) (S_K2 : Sta Z Z.heap "dev/tryst/tool/Workload$QueueKind" "LINKED_DEQUE" "Ldev/tryst/tool/Workload$QueueKind;" (.ref w2)) (kk : (irm (p1 &&& (2147483647 : Int32)) (3 : Int32)) = (1 : Int32)) :
    MetFree l x (head1 (Jvm.Cond.code x code maxLocals ret :: ws) room_1) (fun a_ U => a_ = #[(.int p1)] ∧ Z.Warmed39 U.vm ∧ U.heap = h0 ∧ CHv Z consts_1 U.vm h0) (fun _ _ _ _ _ => True) (fun _ U o U' => ∃ v L, o = .returned v ∧ Q0 h0 n0 v U'.heap L ∧ CHr Z consts_1 U.vm U.heap U'.vm U'.heap ∧ ReturnedEndW U o U' L room_1.cells room_1.slots) := by
  refine MetFree.of_bodySF (plainFor_of_name pn_1) hisR ?_
  intro p e s m args below meth c s₁ Bd hml0 hP hK
  obtain ⟨rfl, hZ, hh, hC⟩ := hP
  have hx := Bd.exec
  have hby := Bd.bytes
  have hml : c.maxLocals = 4 := hml0
  have hown : s.vm.findClass "dev/tryst/tool/QueueKindWordsPinLaw" = some m.cls := findClass_of_methodNamed Bd.named
  have hnm := (name_of_methodNamed Bd.named Bd.method).1
  have X0 : Stand p l e room_1 (s.setVm s.vm) m #[(.int p1)] below meth c s₁ [] 0 0 := Stand.of_body Bd
  have e0 : s₁.heap = h0 := by rw [← hh, Bd.state]; rfl
  have N0 := Fr.nil n0
  have pre0 : ∀ tg, Steps p.tables e below (s₁.setTop (mkF m 0 #[.val (.int p1), .unset, .unset, .unset] [])) tg → Steps p.tables e below (s₁.setTop (entryFrame m #[(.int p1)] maxLocals)) tg := fun tg kq => castTop (ef_I_4m m p1) kq
  have hS0 : s.Since s.vm h0.size := (State.WarmedH.refl s).since _
  have hk0 : h0.size ≤ h0.size := Nat.le_refl _
  have CR0 : CHr Z consts_1 s.vm h0 s.vm h0 := CHr.refl hC
  obtain ⟨tm0, kbm0, Nm0, vsm0, sEm0, sVm0, sCm0, sKm0, scdm0, shpm0, shlm0⟩ := id T0
  obtain ⟨tm1, kbm1, Nm1, vsm1, sEm1, sVm1, sCm1, sKm1, scdm1, shpm1, shlm1⟩ := id T1
  obtain ⟨tm2, kbm2, Nm2, vsm2, sEm2, sVm2, sCm2, sKm2, scdm2, shpm2, shlm2⟩ := id T2
  obtain ⟨_, _, ⟨T101, L101, k101, n101⟩, -, X101, ⟨Lc101, hQ101, l101, y101, z101⟩, st101⟩ := Jvm.LawKit.callS X0 hx (y := (⟨"dev/tryst/tool/Workload$QueueKind", "words", "()[Ljava/lang/String;"⟩ : MethodName)) hown (mvT hZ (wi hw 0 rfl)) (mvT hZ (wi hw 1 rfl)) (mvT hZ (wi hw 2 rfl)) (mvT hZ (wi hw 3 rfl)) (by decide) (backOf (W := 0) (rm1 l Z a0 hw [] G1 kV wV w0 w1 w2 s0 s1 s2 h0 n0 O0 S_CS hG1 S_V A_V E_V M0 M1 M2 T0 T1 T2) hZ (wi hw 3 rfl) (wi hw 2 rfl) (by decide) (by decide)) (g := (mkF m 0 #[.val (.int p1), .unset, .unset, .unset] [])) rfl (by rw [hml]; rfl) (argsL := []) (rest := []) (lenOf pd_2 rfl) rfl (by show 2 * 0 + _ ≤ _; exact Nat.le_of_eq rfl) (hb hby at_0) (fun _ _ => ⟨rfl, e0, (by decide : 0 + 2 ≤ _), (by decide : 0 + 6 ≤ _)⟩)
  dsimp only [Pt.U, Pt.locs, Pt.cells, Pt.slots] at X101 l101 y101 z101 st101 hQ101
  subst l101 y101 z101
  obtain ⟨bw101, kw101, rfl, N101q, K101, szw101, Aw101⟩ := hQ101
  obtain ⟨h101, e101⟩ : ∃ z, T101.heap = z := ⟨_, rfl⟩
  rw [e101] at K101 Aw101
  have g_bw101 : n0 ≤ bw101 := Nat.le_trans (O0.1 ▸ O0.2.1) szw101
  have sz_bw101 : h0.size ≤ bw101 := Nat.le_trans (Nat.le_refl _) szw101
  have O101 := O0.keep K101 all0
  have CS101 := CHr.keep K101 sf0 CR0.1
  have CR101 := CR0.trans CS101
  have KK101 : Keep h0 h101 [] := (Keep.refl h0 []).trans K101 all0
  have N101 := Fr.app N0 N101q
  obtain ⟨cl_bw101_11, Ar_bw101_11, -, S_bw101_11, N_bw101_11, -, -⟩ := id (Aw101)
  obtain ⟨a102, T102, h102, k102, b102, kb102, X102, e102, E102, hS102, hk102, hZ102, hown102, lE102, lC102, lV102, lK102, la102, lb102, CS102, lL102, lne102, st102⟩ := ldcCH (s := s) (EL := consts_1) X101 hx hZ hown (wi hw 27 rfl) (fun d hd => hw d (own_strw d hd)) e101 hS0 (Nat.le_trans hk0 K101.1) (own_EW hw) (by decide) CR101.1 (vs := [(.int (97 : Int32)), (.int (114 : Int32)), (.int (114 : Int32)), (.int (97 : Int32)), (.int (121 : Int32))]) (z := (5 : Int32)) ⟨by decide, by decide⟩ (by decide) (by decide) (g := (mkF m 16 #[.val (.int p1), .val (.ref bw101), .unset, .unset] [])) rfl (hb hby at_16) (n := 20) (by decide) (by decide) (by decide) (by decide)
  have O102 := O101.ext E102
  have CR102 := CR101.trans CS102
  have KK102 : Keep h0 h102 [] := KK101.ext E102
  have lcd102 : StrChars.Road.CodA ([(97 : Int32), (114 : Int32), (114 : Int32), (97 : Int32), (121 : Int32)] : List Int32) 0 (5 : Int32) [(.int (97 : Int32)), (.int (114 : Int32)), (.int (114 : Int32)), (.int (97 : Int32)), (.int (121 : Int32))] := Or.inl ⟨rfl, rfl, rfl, by decide⟩
  have lhp102 : ∀ c ∈ ([(97 : Int32), (114 : Int32), (114 : Int32), (97 : Int32), (121 : Int32)] : List Int32), ¬ c < 0 ∧ ¬ (255 : Int32) < c := by decide
  have fV_bw101_2_103 := (Aw101.ext E102)
  obtain ⟨cl_bw101_24, Ar_bw101_24, q_bw101_24, S_bw101_24, N_bw101_24, H_bw101_24, G_bw101_24⟩ := id (fV_bw101_2_103)
  have hinbw101_24 : ¬ ((0 : Int32) < 0 ∨ cl_bw101_24.slots.size ≤ ((0 : Int32)).toNatClampNeg) := inb_of S_bw101_24 ⟨by decide, by decide⟩
  have hatbw101_24 : cl_bw101_24.slots[((0 : Int32)).toNatClampNeg]? = some (.ref s0) := H_bw101_24.at hinbw101_24 rfl
  obtain ⟨cq104, kq104, q104a, q104b, q104c⟩ := isOf hZ102 e102 lE102
  obtain ⟨_, _, ⟨T104, L104, k104, n104⟩, -, X104, ⟨Lc104, hQ104, l104, y104, z104⟩, st104⟩ := X102.virtualBack hx (y := (⟨"java/lang/String", "equals", "(Ljava/lang/Object;)Z"⟩ : MethodName)) (z := (⟨"java/lang/String", "equals", "(Ljava/lang/Object;)Z"⟩ : MethodName)) hown102 (mvT hZ102 (wi hw 35 rfl)) (mvT hZ102 (wi hw 36 rfl)) (notFace_of_selects (args := #[]) (mvT hZ102 (wi hw 38 rfl))) (mvT hZ102 (wi hw 38 rfl)) (mvT hZ102 (wi hw 37 rfl)) (by decide) (StrChars.Road.eqW (W := 0) hZ102 (fun d hd => hw d (own_w_eqW d hd)) (kI := 4) (wi hw 29 rfl) lE102 lV102 lC102 lK102 lcd102 (own_up _ lhp102) (by decide) (sEm0.ext O102.2) (sVm0.ext O102.2) (sCm0.ext O102.2) (sKm0.ext O102.2) scdm0 (own_up _ shpm0) shlm0 (S_CS.ext O102.2) hG1 (by decide) (by decide)) q104a q104c (g := (mkF m 21 #[.val (.int p1), .val (.ref bw101), .unset, .unset] [(.ref s0), (.ref a102)])) rfl (by rw [hml]; rfl) (Steps.refl _) (argsL := [(.ref s0)]) (rest := []) (lenOf pd_1 rfl) rfl (by show 2 * 0 + _ ≤ _; exact Nat.le_of_eq rfl) (hb hby at_21) (fun _ _ => ⟨rfl, e102, (by decide : 4 + 0 ≤ _), (by decide : 30 + 0 ≤ _)⟩)
  dsimp only [Pt.U, Pt.locs, Pt.cells, Pt.slots] at X104 l104 y104 z104 st104 hQ104
  subst l104 y104 z104
  obtain ⟨hv104, rfl, hh104⟩ := hQ104
  obtain rfl := (hv104.resolve_right (fun q => q.2 ((by decide) : ([(97 : Int32), (114 : Int32), (114 : Int32), (97 : Int32), (121 : Int32)] : List Int32) = ([(97 : Int32), (114 : Int32), (114 : Int32), (97 : Int32), (121 : Int32)] : List Int32)))).1
  have N104q : Fr n0 ([] : List Loc) := Fr.nil n0
  have e104 : T104.heap = h102 := hh104
  have N104 := Fr.app N101 N104q
  obtain ⟨a105, T105, h105, k105, b105, kb105, X105, e105, E105, hS105, hk105, hZ105, hown105, lE105, lC105, lV105, lK105, la105, lb105, CS105, lL105, lne105, st105⟩ := ldcCH (s := s) (EL := consts_1) X104 hx hZ102 hown102 (wi hw 48 rfl) (fun d hd => hw d (own_strw d hd)) e104 hS102 hk102 (own_EW hw) (by decide) CR102.1 (vs := [(.int (108 : Int32)), (.int (105 : Int32)), (.int (110 : Int32)), (.int (107 : Int32)), (.int (101 : Int32)), (.int (100 : Int32))]) (z := (6 : Int32)) ⟨by decide, by decide⟩ (by decide) (by decide) (g := (mkF m 27 #[.val (.int p1), .val (.ref bw101), .unset, .unset] [])) rfl (hb hby at_27) (n := 24) (by decide) (by decide) (by decide) (by decide)
  have O105 := O102.ext E105
  have CR105 := CR102.trans CS105
  have KK105 : Keep h0 h105 [] := KK102.ext E105
  have lcd105 : StrChars.Road.CodA ([(108 : Int32), (105 : Int32), (110 : Int32), (107 : Int32), (101 : Int32), (100 : Int32)] : List Int32) 0 (6 : Int32) [(.int (108 : Int32)), (.int (105 : Int32)), (.int (110 : Int32)), (.int (107 : Int32)), (.int (101 : Int32)), (.int (100 : Int32))] := Or.inl ⟨rfl, rfl, rfl, by decide⟩
  have lhp105 : ∀ c ∈ ([(108 : Int32), (105 : Int32), (110 : Int32), (107 : Int32), (101 : Int32), (100 : Int32)] : List Int32), ¬ c < 0 ∧ ¬ (255 : Int32) < c := by decide
  have fV_bw101_3_106 := (fV_bw101_2_103.ext E105)
  obtain ⟨cl_bw101_36, Ar_bw101_36, q_bw101_36, S_bw101_36, N_bw101_36, H_bw101_36, G_bw101_36⟩ := id (fV_bw101_3_106)
  have hinbw101_36 : ¬ ((1 : Int32) < 0 ∨ cl_bw101_36.slots.size ≤ ((1 : Int32)).toNatClampNeg) := inb_of S_bw101_36 ⟨by decide, by decide⟩
  have hatbw101_36 : cl_bw101_36.slots[((1 : Int32)).toNatClampNeg]? = some (.ref s1) := H_bw101_36.at hinbw101_36 rfl
  obtain ⟨cq107, kq107, q107a, q107b, q107c⟩ := isOf hZ105 e105 lE105
  obtain ⟨_, _, ⟨T107, L107, k107, n107⟩, -, X107, ⟨Lc107, hQ107, l107, y107, z107⟩, st107⟩ := X105.virtualBack hx (y := (⟨"java/lang/String", "equals", "(Ljava/lang/Object;)Z"⟩ : MethodName)) (z := (⟨"java/lang/String", "equals", "(Ljava/lang/Object;)Z"⟩ : MethodName)) hown105 (mvT hZ105 (wi hw 35 rfl)) (mvT hZ105 (wi hw 36 rfl)) (notFace_of_selects (args := #[]) (mvT hZ105 (wi hw 38 rfl))) (mvT hZ105 (wi hw 38 rfl)) (mvT hZ105 (wi hw 37 rfl)) (by decide) (StrChars.Road.eqW (W := 0) hZ105 (fun d hd => hw d (own_w_eqW d hd)) (kI := 4) (wi hw 29 rfl) lE105 lV105 lC105 lK105 lcd105 (own_up _ lhp105) (by decide) (sEm1.ext O105.2) (sVm1.ext O105.2) (sCm1.ext O105.2) (sKm1.ext O105.2) scdm1 (own_up _ shpm1) shlm1 (S_CS.ext O105.2) hG1 (by decide) (by decide)) q107a q107c (g := (mkF m 32 #[.val (.int p1), .val (.ref bw101), .unset, .unset] [(.ref s1), (.ref a105)])) rfl (by rw [hml]; rfl) (Steps.refl _) (argsL := [(.ref s1)]) (rest := []) (lenOf pd_1 rfl) rfl (by show 2 * 0 + _ ≤ _; exact Nat.le_of_eq rfl) (hb hby at_32) (fun _ _ => ⟨rfl, e105, (by decide : 6 + 0 ≤ _), (by decide : 58 + 0 ≤ _)⟩)
  dsimp only [Pt.U, Pt.locs, Pt.cells, Pt.slots] at X107 l107 y107 z107 st107 hQ107
  subst l107 y107 z107
  obtain ⟨hv107, rfl, hh107⟩ := hQ107
  obtain rfl := (hv107.resolve_right (fun q => q.2 ((by decide) : ([(108 : Int32), (105 : Int32), (110 : Int32), (107 : Int32), (101 : Int32), (100 : Int32)] : List Int32) = ([(108 : Int32), (105 : Int32), (110 : Int32), (107 : Int32), (101 : Int32), (100 : Int32)] : List Int32)))).1
  have N107q : Fr n0 ([] : List Loc) := Fr.nil n0
  have e107 : T107.heap = h105 := hh107
  have N107 := Fr.app N104 N107q
  obtain ⟨a108, T108, h108, k108, b108, kb108, X108, e108, E108, hS108, hk108, hZ108, hown108, lE108, lC108, lV108, lK108, la108, lb108, CS108, lL108, lne108, st108⟩ := ldcCH (s := s) (EL := consts_1) X107 hx hZ105 hown105 (wi hw 49 rfl) (fun d hd => hw d (own_strw d hd)) e107 hS105 hk105 (own_EW hw) (by decide) CR105.1 (vs := [(.int (108 : Int32)), (.int (105 : Int32)), (.int (110 : Int32)), (.int (107 : Int32)), (.int (101 : Int32)), (.int (100 : Int32)), (.int (45 : Int32)), (.int (100 : Int32)), (.int (101 : Int32)), (.int (113 : Int32)), (.int (117 : Int32)), (.int (101 : Int32))]) (z := (12 : Int32)) ⟨by decide, by decide⟩ (by decide) (by decide) (g := (mkF m 38 #[.val (.int p1), .val (.ref bw101), .unset, .unset] [])) rfl (hb hby at_38) (n := 48) (by decide) (by decide) (by decide) (by decide)
  have O108 := O105.ext E108
  have CR108 := CR105.trans CS108
  have KK108 : Keep h0 h108 [] := KK105.ext E108
  have lcd108 : StrChars.Road.CodA ([(108 : Int32), (105 : Int32), (110 : Int32), (107 : Int32), (101 : Int32), (100 : Int32), (45 : Int32), (100 : Int32), (101 : Int32), (113 : Int32), (117 : Int32), (101 : Int32)] : List Int32) 0 (12 : Int32) [(.int (108 : Int32)), (.int (105 : Int32)), (.int (110 : Int32)), (.int (107 : Int32)), (.int (101 : Int32)), (.int (100 : Int32)), (.int (45 : Int32)), (.int (100 : Int32)), (.int (101 : Int32)), (.int (113 : Int32)), (.int (117 : Int32)), (.int (101 : Int32))] := Or.inl ⟨rfl, rfl, rfl, by decide⟩
  have lhp108 : ∀ c ∈ ([(108 : Int32), (105 : Int32), (110 : Int32), (107 : Int32), (101 : Int32), (100 : Int32), (45 : Int32), (100 : Int32), (101 : Int32), (113 : Int32), (117 : Int32), (101 : Int32)] : List Int32), ¬ c < 0 ∧ ¬ (255 : Int32) < c := by decide
  have fV_bw101_4_109 := (fV_bw101_3_106.ext E108)
  obtain ⟨cl_bw101_48, Ar_bw101_48, q_bw101_48, S_bw101_48, N_bw101_48, H_bw101_48, G_bw101_48⟩ := id (fV_bw101_4_109)
  have hinbw101_48 : ¬ ((2 : Int32) < 0 ∨ cl_bw101_48.slots.size ≤ ((2 : Int32)).toNatClampNeg) := inb_of S_bw101_48 ⟨by decide, by decide⟩
  have hatbw101_48 : cl_bw101_48.slots[((2 : Int32)).toNatClampNeg]? = some (.ref s2) := H_bw101_48.at hinbw101_48 rfl
  obtain ⟨cq110, kq110, q110a, q110b, q110c⟩ := isOf hZ108 e108 lE108
  obtain ⟨_, _, ⟨T110, L110, k110, n110⟩, -, X110, ⟨Lc110, hQ110, l110, y110, z110⟩, st110⟩ := X108.virtualBack hx (y := (⟨"java/lang/String", "equals", "(Ljava/lang/Object;)Z"⟩ : MethodName)) (z := (⟨"java/lang/String", "equals", "(Ljava/lang/Object;)Z"⟩ : MethodName)) hown108 (mvT hZ108 (wi hw 35 rfl)) (mvT hZ108 (wi hw 36 rfl)) (notFace_of_selects (args := #[]) (mvT hZ108 (wi hw 38 rfl))) (mvT hZ108 (wi hw 38 rfl)) (mvT hZ108 (wi hw 37 rfl)) (by decide) (StrChars.Road.eqW (W := 0) hZ108 (fun d hd => hw d (own_w_eqW d hd)) (kI := 4) (wi hw 29 rfl) lE108 lV108 lC108 lK108 lcd108 (own_up _ lhp108) (by decide) (sEm2.ext O108.2) (sVm2.ext O108.2) (sCm2.ext O108.2) (sKm2.ext O108.2) scdm2 (own_up _ shpm2) shlm2 (S_CS.ext O108.2) hG1 (by decide) (by decide)) q110a q110c (g := (mkF m 43 #[.val (.int p1), .val (.ref bw101), .unset, .unset] [(.ref s2), (.ref a108)])) rfl (by rw [hml]; rfl) (Steps.refl _) (argsL := [(.ref s2)]) (rest := []) (lenOf pd_1 rfl) rfl (by show 2 * 0 + _ ≤ _; exact Nat.le_of_eq rfl) (hb hby at_43) (fun _ _ => ⟨rfl, e108, (by decide : 8 + 0 ≤ _), (by decide : 110 + 0 ≤ _)⟩)
  dsimp only [Pt.U, Pt.locs, Pt.cells, Pt.slots] at X110 l110 y110 z110 st110 hQ110
  subst l110 y110 z110
  obtain ⟨hv110, rfl, hh110⟩ := hQ110
  obtain rfl := (hv110.resolve_right (fun q => q.2 ((by decide) : ([(108 : Int32), (105 : Int32), (110 : Int32), (107 : Int32), (101 : Int32), (100 : Int32), (45 : Int32), (100 : Int32), (101 : Int32), (113 : Int32), (117 : Int32), (101 : Int32)] : List Int32) = ([(108 : Int32), (105 : Int32), (110 : Int32), (107 : Int32), (101 : Int32), (100 : Int32), (45 : Int32), (100 : Int32), (101 : Int32), (113 : Int32), (117 : Int32), (101 : Int32)] : List Int32)))).1
  have N110q : Fr n0 ([] : List Loc) := Fr.nil n0
  have e110 : T110.heap = h108 := hh110
  have N110 := Fr.app N107 N110q
  obtain ⟨T111, X111, e111, st111⟩ := getS2 X110 hx hZ108 hown108 (host := "") (Or.inl (wi hw 50 rfl)) Via.refl e110 (S_K0.ext O108.2) (g := (mkF m 51 #[.val (.int p1), .val (.ref bw101), .unset, .unset] [])) rfl (hb hby at_51)
  obtain ⟨T112, X112, e112, st112⟩ := getF X111 hx hZ108 hown108 (host := "") (Or.inl (wi hw 51 rfl)) Via.refl e111 (M0.ext O108.2) (g := (mkF m 54 #[.val (.int p1), .val (.ref bw101), .unset, .unset] [(.ref w0)])) rfl rfl (hb hby at_54)
  obtain ⟨cl_bw101_62, Ar_bw101_62, q_bw101_62, S_bw101_62, N_bw101_62, H_bw101_62, G_bw101_62⟩ := id (fV_bw101_4_109)
  have hinbw101_62 : ¬ ((0 : Int32) < 0 ∨ cl_bw101_62.slots.size ≤ ((0 : Int32)).toNatClampNeg) := inb_of S_bw101_62 ⟨by decide, by decide⟩
  have hatbw101_62 : cl_bw101_62.slots[((0 : Int32)).toNatClampNeg]? = some (.ref s0) := H_bw101_62.at hinbw101_62 rfl
  obtain ⟨cq113, kq113, q113a, q113b, q113c⟩ := isOf hZ108 e112 (sEm0.ext O108.2)
  obtain ⟨_, _, ⟨T113, L113, k113, n113⟩, -, X113, ⟨Lc113, hQ113, l113, y113, z113⟩, st113⟩ := X112.virtualBack hx (y := (⟨"java/lang/String", "equals", "(Ljava/lang/Object;)Z"⟩ : MethodName)) (z := (⟨"java/lang/String", "equals", "(Ljava/lang/Object;)Z"⟩ : MethodName)) hown108 (mvT hZ108 (wi hw 35 rfl)) (mvT hZ108 (wi hw 36 rfl)) (notFace_of_selects (args := #[]) (mvT hZ108 (wi hw 38 rfl))) (mvT hZ108 (wi hw 38 rfl)) (mvT hZ108 (wi hw 37 rfl)) (by decide) (StrChars.Road.eqW (W := 0) hZ108 (fun d hd => hw d (own_w_eqW d hd)) (kI := 4) (wi hw 29 rfl) (sEm0.ext O108.2) (sVm0.ext O108.2) (sCm0.ext O108.2) (sKm0.ext O108.2) scdm0 (own_up _ shpm0) shlm0 (sEm0.ext O108.2) (sVm0.ext O108.2) (sCm0.ext O108.2) (sKm0.ext O108.2) scdm0 (own_up _ shpm0) shlm0 (S_CS.ext O108.2) hG1 (by decide) (by decide)) q113a q113c (g := (mkF m 60 #[.val (.int p1), .val (.ref bw101), .unset, .unset] [(.ref s0), (.ref s0)])) rfl (by rw [hml]; rfl) (Steps.refl _) (argsL := [(.ref s0)]) (rest := []) (lenOf pd_1 rfl) rfl (by show 2 * 0 + _ ≤ _; exact Nat.le_of_eq rfl) (hb hby at_60) (fun _ _ => ⟨rfl, e112, (by decide : 8 + 0 ≤ _), (by decide : 110 + 0 ≤ _)⟩)
  dsimp only [Pt.U, Pt.locs, Pt.cells, Pt.slots] at X113 l113 y113 z113 st113 hQ113
  subst l113 y113 z113
  obtain ⟨hv113, rfl, hh113⟩ := hQ113
  obtain rfl := (hv113.resolve_right (fun q => q.2 ((by decide) : ([(97 : Int32), (114 : Int32), (114 : Int32), (97 : Int32), (121 : Int32)] : List Int32) = ([(97 : Int32), (114 : Int32), (114 : Int32), (97 : Int32), (121 : Int32)] : List Int32)))).1
  have N113q : Fr n0 ([] : List Loc) := Fr.nil n0
  have e113 : T113.heap = h108 := hh113
  have N113 := Fr.app N110 N113q
  obtain ⟨T114, X114, e114, st114⟩ := getS2 X113 hx hZ108 hown108 (host := "") (Or.inl (wi hw 52 rfl)) Via.refl e113 (S_K1.ext O108.2) (g := (mkF m 66 #[.val (.int p1), .val (.ref bw101), .unset, .unset] [])) rfl (hb hby at_66)
  obtain ⟨T115, X115, e115, st115⟩ := getF X114 hx hZ108 hown108 (host := "") (Or.inl (wi hw 51 rfl)) Via.refl e114 (M1.ext O108.2) (g := (mkF m 69 #[.val (.int p1), .val (.ref bw101), .unset, .unset] [(.ref w1)])) rfl rfl (hb hby at_69)
  obtain ⟨cl_bw101_76, Ar_bw101_76, q_bw101_76, S_bw101_76, N_bw101_76, H_bw101_76, G_bw101_76⟩ := id (fV_bw101_4_109)
  have hinbw101_76 : ¬ ((1 : Int32) < 0 ∨ cl_bw101_76.slots.size ≤ ((1 : Int32)).toNatClampNeg) := inb_of S_bw101_76 ⟨by decide, by decide⟩
  have hatbw101_76 : cl_bw101_76.slots[((1 : Int32)).toNatClampNeg]? = some (.ref s1) := H_bw101_76.at hinbw101_76 rfl
  obtain ⟨cq116, kq116, q116a, q116b, q116c⟩ := isOf hZ108 e115 (sEm1.ext O108.2)
  obtain ⟨_, _, ⟨T116, L116, k116, n116⟩, -, X116, ⟨Lc116, hQ116, l116, y116, z116⟩, st116⟩ := X115.virtualBack hx (y := (⟨"java/lang/String", "equals", "(Ljava/lang/Object;)Z"⟩ : MethodName)) (z := (⟨"java/lang/String", "equals", "(Ljava/lang/Object;)Z"⟩ : MethodName)) hown108 (mvT hZ108 (wi hw 35 rfl)) (mvT hZ108 (wi hw 36 rfl)) (notFace_of_selects (args := #[]) (mvT hZ108 (wi hw 38 rfl))) (mvT hZ108 (wi hw 38 rfl)) (mvT hZ108 (wi hw 37 rfl)) (by decide) (StrChars.Road.eqW (W := 0) hZ108 (fun d hd => hw d (own_w_eqW d hd)) (kI := 4) (wi hw 29 rfl) (sEm1.ext O108.2) (sVm1.ext O108.2) (sCm1.ext O108.2) (sKm1.ext O108.2) scdm1 (own_up _ shpm1) shlm1 (sEm1.ext O108.2) (sVm1.ext O108.2) (sCm1.ext O108.2) (sKm1.ext O108.2) scdm1 (own_up _ shpm1) shlm1 (S_CS.ext O108.2) hG1 (by decide) (by decide)) q116a q116c (g := (mkF m 75 #[.val (.int p1), .val (.ref bw101), .unset, .unset] [(.ref s1), (.ref s1)])) rfl (by rw [hml]; rfl) (Steps.refl _) (argsL := [(.ref s1)]) (rest := []) (lenOf pd_1 rfl) rfl (by show 2 * 0 + _ ≤ _; exact Nat.le_of_eq rfl) (hb hby at_75) (fun _ _ => ⟨rfl, e115, (by decide : 8 + 0 ≤ _), (by decide : 110 + 0 ≤ _)⟩)
  dsimp only [Pt.U, Pt.locs, Pt.cells, Pt.slots] at X116 l116 y116 z116 st116 hQ116
  subst l116 y116 z116
  obtain ⟨hv116, rfl, hh116⟩ := hQ116
  obtain rfl := (hv116.resolve_right (fun q => q.2 ((by decide) : ([(108 : Int32), (105 : Int32), (110 : Int32), (107 : Int32), (101 : Int32), (100 : Int32)] : List Int32) = ([(108 : Int32), (105 : Int32), (110 : Int32), (107 : Int32), (101 : Int32), (100 : Int32)] : List Int32)))).1
  have N116q : Fr n0 ([] : List Loc) := Fr.nil n0
  have e116 : T116.heap = h108 := hh116
  have N116 := Fr.app N113 N116q
  obtain ⟨T117, X117, e117, st117⟩ := getS2 X116 hx hZ108 hown108 (host := "") (Or.inl (wi hw 53 rfl)) Via.refl e116 (S_K2.ext O108.2) (g := (mkF m 81 #[.val (.int p1), .val (.ref bw101), .unset, .unset] [])) rfl (hb hby at_81)
  obtain ⟨T118, X118, e118, st118⟩ := getF X117 hx hZ108 hown108 (host := "") (Or.inl (wi hw 51 rfl)) Via.refl e117 (M2.ext O108.2) (g := (mkF m 84 #[.val (.int p1), .val (.ref bw101), .unset, .unset] [(.ref w2)])) rfl rfl (hb hby at_84)
  obtain ⟨cl_bw101_90, Ar_bw101_90, q_bw101_90, S_bw101_90, N_bw101_90, H_bw101_90, G_bw101_90⟩ := id (fV_bw101_4_109)
  have hinbw101_90 : ¬ ((2 : Int32) < 0 ∨ cl_bw101_90.slots.size ≤ ((2 : Int32)).toNatClampNeg) := inb_of S_bw101_90 ⟨by decide, by decide⟩
  have hatbw101_90 : cl_bw101_90.slots[((2 : Int32)).toNatClampNeg]? = some (.ref s2) := H_bw101_90.at hinbw101_90 rfl
  obtain ⟨cq119, kq119, q119a, q119b, q119c⟩ := isOf hZ108 e118 (sEm2.ext O108.2)
  obtain ⟨_, _, ⟨T119, L119, k119, n119⟩, -, X119, ⟨Lc119, hQ119, l119, y119, z119⟩, st119⟩ := X118.virtualBack hx (y := (⟨"java/lang/String", "equals", "(Ljava/lang/Object;)Z"⟩ : MethodName)) (z := (⟨"java/lang/String", "equals", "(Ljava/lang/Object;)Z"⟩ : MethodName)) hown108 (mvT hZ108 (wi hw 35 rfl)) (mvT hZ108 (wi hw 36 rfl)) (notFace_of_selects (args := #[]) (mvT hZ108 (wi hw 38 rfl))) (mvT hZ108 (wi hw 38 rfl)) (mvT hZ108 (wi hw 37 rfl)) (by decide) (StrChars.Road.eqW (W := 0) hZ108 (fun d hd => hw d (own_w_eqW d hd)) (kI := 4) (wi hw 29 rfl) (sEm2.ext O108.2) (sVm2.ext O108.2) (sCm2.ext O108.2) (sKm2.ext O108.2) scdm2 (own_up _ shpm2) shlm2 (sEm2.ext O108.2) (sVm2.ext O108.2) (sCm2.ext O108.2) (sKm2.ext O108.2) scdm2 (own_up _ shpm2) shlm2 (S_CS.ext O108.2) hG1 (by decide) (by decide)) q119a q119c (g := (mkF m 90 #[.val (.int p1), .val (.ref bw101), .unset, .unset] [(.ref s2), (.ref s2)])) rfl (by rw [hml]; rfl) (Steps.refl _) (argsL := [(.ref s2)]) (rest := []) (lenOf pd_1 rfl) rfl (by show 2 * 0 + _ ≤ _; exact Nat.le_of_eq rfl) (hb hby at_90) (fun _ _ => ⟨rfl, e118, (by decide : 8 + 0 ≤ _), (by decide : 110 + 0 ≤ _)⟩)
  dsimp only [Pt.U, Pt.locs, Pt.cells, Pt.slots] at X119 l119 y119 z119 st119 hQ119
  subst l119 y119 z119
  obtain ⟨hv119, rfl, hh119⟩ := hQ119
  obtain rfl := (hv119.resolve_right (fun q => q.2 ((by decide) : ([(108 : Int32), (105 : Int32), (110 : Int32), (107 : Int32), (101 : Int32), (100 : Int32), (45 : Int32), (100 : Int32), (101 : Int32), (113 : Int32), (117 : Int32), (101 : Int32)] : List Int32) = ([(108 : Int32), (105 : Int32), (110 : Int32), (107 : Int32), (101 : Int32), (100 : Int32), (45 : Int32), (100 : Int32), (101 : Int32), (113 : Int32), (117 : Int32), (101 : Int32)] : List Int32)))).1
  have N119q : Fr n0 ([] : List Loc) := Fr.nil n0
  have e119 : T119.heap = h108 := hh119
  have N119 := Fr.app N116 N119q
  obtain ⟨T120, X120, e120, st120⟩ := getS2 X119 hx hZ108 hown108 (host := "") (Or.inl (wi hw 52 rfl)) Via.refl e119 (S_K1.ext O108.2) (g := (mkF m 121 #[.val (.int p1), .val (.ref bw101), .val (.int (1 : Int32)), .unset] [])) rfl (hb hby at_121)
  obtain ⟨cl_bw101_130, Ar_bw101_130, q_bw101_130, S_bw101_130, N_bw101_130, H_bw101_130, G_bw101_130⟩ := id (fV_bw101_4_109)
  have hinbw101_130 : ¬ ((1 : Int32) < 0 ∨ cl_bw101_130.slots.size ≤ ((1 : Int32)).toNatClampNeg) := inb_of S_bw101_130 ⟨by decide, by decide⟩
  have hatbw101_130 : cl_bw101_130.slots[((1 : Int32)).toNatClampNeg]? = some (.ref s1) := H_bw101_130.at hinbw101_130 rfl
  obtain ⟨_, _, ⟨T121, L121, k121, n121⟩, -, X121, ⟨Lc121, hQ121, l121, y121, z121⟩, st121⟩ := Jvm.LawKit.callS X120 hx (y := (⟨"dev/tryst/tool/Workload$QueueKind", "of", "(Ljava/lang/String;)Ldev/tryst/tool/Workload$QueueKind;"⟩ : MethodName)) hown108 (mvT hZ108 (wi hw 55 rfl)) (mvT hZ108 (wi hw 56 rfl)) (mvT hZ108 (wi hw 2 rfl)) (mvT hZ108 (wi hw 57 rfl)) (by decide) (backOf (W := 0) (rm7_1 l Z a0 hw [] G1 kV wV w0 w1 w2 s0 s1 s2 h108 n0 O108 S_CS hG1 S_V A_V E_V M0 M1 M2 T0 T1 T2) hZ108 (wi hw 57 rfl) (wi hw 2 rfl) (by decide) (by decide)) (g := (mkF m 135 #[.val (.int p1), .val (.ref bw101), .val (.int (1 : Int32)), .val (.ref w1)] [(.ref s1)])) rfl (by rw [hml]; rfl) (argsL := [(.ref s1)]) (rest := []) (lenOf pd_3 rfl) rfl (by show 2 * 0 + _ ≤ _; exact Nat.le_of_eq rfl) (hb hby at_135) (fun _ _ => ⟨rfl, e120, (by decide : 8 + 1 ≤ _), (by decide : 110 + 3 ≤ _)⟩)
  dsimp only [Pt.U, Pt.locs, Pt.cells, Pt.slots] at X121 l121 y121 z121 st121 hQ121
  subst l121 y121 z121
  obtain ⟨rfl, N121q, K121⟩ := hQ121
  obtain ⟨h121, e121⟩ : ∃ z, T121.heap = z := ⟨_, rfl⟩
  rw [e121] at K121
  have O121 := O108.keep K121 all0
  have CS121 := CHr.keep K121 sf0 CR108.1
  have CR121 := CR108.trans CS121
  have KK121 : Keep h0 h121 [] := KK108.trans K121 all0
  have N121 := Fr.app N119 N121q
  obtain ⟨fs, hr, hrun, hended, hREW⟩ := X121.leaveW hS108 (by rw [e121]; exact (Nat.le_trans hk108 K121.1)) (v := some (.int (1 : Int32))) (fun h => by rw [Bd.returns] at h; cases h)
  refine ⟨_, _, pre0 _ ?_, hrun, hended, _, _, rfl, ?_, (by rw [hh]; show CHr Z consts_1 s.vm h0 T121.vm T121.heap; rw [e121]; exact CR121.trans (CHv.at X121 hZ108 (own_EW hw) CR121.1)), hREW.1, hREW.2.1, hREW.2.2.1, hREW.2.2.2.mono (by decide) (by decide)⟩
  · show Steps p.tables e below (s₁.setTop (mkF m 0 #[.val (.int p1), .unset, .unset, .unset] [])) _
    refine st101 _ ?_
    show Steps p.tables e below (T101.setTop (mkF m 3 #[.val (.int p1), .unset, .unset, .unset] [(.ref bw101)])) _
    refine XS.astoreN X101.here hx rfl (hb hby at_3) rfl rfl (l' := #[.val (.int p1), .val (.ref bw101), .unset, .unset]) rfl ?_
    show Steps p.tables e below (T101.setTop (mkF m 4 #[.val (.int p1), .val (.ref bw101), .unset, .unset] [])) _
    refine XS.aloadN X101.here hx rfl (hb hby at_4) rfl rfl ?_
    show Steps p.tables e below (T101.setTop (mkF m 5 #[.val (.int p1), .val (.ref bw101), .unset, .unset] [(.ref bw101)])) _
    refine XS.ifnullNo X101.here hx rfl (hb hby at_5) rfl ?_
    show Steps p.tables e below (T101.setTop (mkF m 8 #[.val (.int p1), .val (.ref bw101), .unset, .unset] [])) _
    refine XS.aloadN X101.here hx rfl (hb hby at_8) rfl rfl ?_
    show Steps p.tables e below (T101.setTop (mkF m 9 #[.val (.int p1), .val (.ref bw101), .unset, .unset] [(.ref bw101)])) _
    refine X101.arraylength hx (by rw [e101]; exact Ar_bw101_11.1) (State.isArrayOf_alike hZ.alike Ar_bw101_11.2.1) (g := (mkF m 9 #[.val (.int p1), .val (.ref bw101), .unset, .unset] [(.ref bw101)])) rfl rfl (hb hby at_9) _ ?_
    rw [len_of S_bw101_11 N_bw101_11]
    show Steps p.tables e below (T101.setTop (mkF m 10 #[.val (.int p1), .val (.ref bw101), .unset, .unset] [(.int (3 : Int32))])) _
    refine XS.iconst X101.here hx rfl (hb hby at_10) ?_
    show Steps p.tables e below (T101.setTop (mkF m 11 #[.val (.int p1), .val (.ref bw101), .unset, .unset] [(.int (3 : Int32)), (.int (3 : Int32))])) _
    refine XS.icmpYes X101.here hx rfl (pc0 := 11) (pc' := 16) rfl (hb hby at_11) rfl (teq (by decide : (3 : Int32) = (3 : Int32))).1 (by decide) (by decide) ?_
    show Steps p.tables e below (T101.setTop (mkF m 16 #[.val (.int p1), .val (.ref bw101), .unset, .unset] [])) _
    refine st102 _ ?_
    show Steps p.tables e below (T102.setTop (mkF m 18 #[.val (.int p1), .val (.ref bw101), .unset, .unset] [(.ref a102)])) _
    refine XS.aloadN X102.here hx rfl (hb hby at_18) rfl rfl ?_
    show Steps p.tables e below (T102.setTop (mkF m 19 #[.val (.int p1), .val (.ref bw101), .unset, .unset] [(.ref bw101), (.ref a102)])) _
    refine XS.iconst X102.here hx rfl (hb hby at_19) ?_
    show Steps p.tables e below (T102.setTop (mkF m 20 #[.val (.int p1), .val (.ref bw101), .unset, .unset] [(.int (0 : Int32)), (.ref bw101), (.ref a102)])) _
    refine X102.aaload hx (j := (0 : Int32)) (v := (.ref s0)) (by rw [e102]; exact Ar_bw101_24.1) (State.isArrayOf_alike hZ102.alike Ar_bw101_24.2.1) rfl Ar_bw101_24.2.2 hinbw101_24 hatbw101_24 (g := (mkF m 20 #[.val (.int p1), .val (.ref bw101), .unset, .unset] [(.int (0 : Int32)), (.ref bw101), (.ref a102)])) rfl rfl (hb hby at_20) _ ?_
    show Steps p.tables e below (T102.setTop (mkF m 21 #[.val (.int p1), .val (.ref bw101), .unset, .unset] [(.ref s0), (.ref a102)])) _
    refine st104.trans ?_
    show Steps p.tables e below (T104.setTop (mkF m 24 #[.val (.int p1), .val (.ref bw101), .unset, .unset] [(.int (1 : Int32))])) _
    refine XS.ifNo X104.here hx rfl (hb hby at_24) rfl ((if0 _ _).trans (feq (by decide : ¬ ((1 : Int32) = (0 : Int32)))).1) ?_
    show Steps p.tables e below (T104.setTop (mkF m 27 #[.val (.int p1), .val (.ref bw101), .unset, .unset] [])) _
    refine st105 _ ?_
    show Steps p.tables e below (T105.setTop (mkF m 29 #[.val (.int p1), .val (.ref bw101), .unset, .unset] [(.ref a105)])) _
    refine XS.aloadN X105.here hx rfl (hb hby at_29) rfl rfl ?_
    show Steps p.tables e below (T105.setTop (mkF m 30 #[.val (.int p1), .val (.ref bw101), .unset, .unset] [(.ref bw101), (.ref a105)])) _
    refine XS.iconst X105.here hx rfl (hb hby at_30) ?_
    show Steps p.tables e below (T105.setTop (mkF m 31 #[.val (.int p1), .val (.ref bw101), .unset, .unset] [(.int (1 : Int32)), (.ref bw101), (.ref a105)])) _
    refine X105.aaload hx (j := (1 : Int32)) (v := (.ref s1)) (by rw [e105]; exact Ar_bw101_36.1) (State.isArrayOf_alike hZ105.alike Ar_bw101_36.2.1) rfl Ar_bw101_36.2.2 hinbw101_36 hatbw101_36 (g := (mkF m 31 #[.val (.int p1), .val (.ref bw101), .unset, .unset] [(.int (1 : Int32)), (.ref bw101), (.ref a105)])) rfl rfl (hb hby at_31) _ ?_
    show Steps p.tables e below (T105.setTop (mkF m 32 #[.val (.int p1), .val (.ref bw101), .unset, .unset] [(.ref s1), (.ref a105)])) _
    refine st107.trans ?_
    show Steps p.tables e below (T107.setTop (mkF m 35 #[.val (.int p1), .val (.ref bw101), .unset, .unset] [(.int (1 : Int32))])) _
    refine XS.ifNo X107.here hx rfl (hb hby at_35) rfl ((if0 _ _).trans (feq (by decide : ¬ ((1 : Int32) = (0 : Int32)))).1) ?_
    show Steps p.tables e below (T107.setTop (mkF m 38 #[.val (.int p1), .val (.ref bw101), .unset, .unset] [])) _
    refine st108 _ ?_
    show Steps p.tables e below (T108.setTop (mkF m 40 #[.val (.int p1), .val (.ref bw101), .unset, .unset] [(.ref a108)])) _
    refine XS.aloadN X108.here hx rfl (hb hby at_40) rfl rfl ?_
    show Steps p.tables e below (T108.setTop (mkF m 41 #[.val (.int p1), .val (.ref bw101), .unset, .unset] [(.ref bw101), (.ref a108)])) _
    refine XS.iconst X108.here hx rfl (hb hby at_41) ?_
    show Steps p.tables e below (T108.setTop (mkF m 42 #[.val (.int p1), .val (.ref bw101), .unset, .unset] [(.int (2 : Int32)), (.ref bw101), (.ref a108)])) _
    refine X108.aaload hx (j := (2 : Int32)) (v := (.ref s2)) (by rw [e108]; exact Ar_bw101_48.1) (State.isArrayOf_alike hZ108.alike Ar_bw101_48.2.1) rfl Ar_bw101_48.2.2 hinbw101_48 hatbw101_48 (g := (mkF m 42 #[.val (.int p1), .val (.ref bw101), .unset, .unset] [(.int (2 : Int32)), (.ref bw101), (.ref a108)])) rfl rfl (hb hby at_42) _ ?_
    show Steps p.tables e below (T108.setTop (mkF m 43 #[.val (.int p1), .val (.ref bw101), .unset, .unset] [(.ref s2), (.ref a108)])) _
    refine st110.trans ?_
    show Steps p.tables e below (T110.setTop (mkF m 46 #[.val (.int p1), .val (.ref bw101), .unset, .unset] [(.int (1 : Int32))])) _
    refine XS.ifYes X110.here hx rfl (pc0 := 46) (pc' := 51) rfl (hb hby at_46) rfl ((if0 _ _).trans (feq (by decide : ¬ ((1 : Int32) = (0 : Int32)))).2) (by decide) (by decide) ?_
    show Steps p.tables e below (T110.setTop (mkF m 51 #[.val (.int p1), .val (.ref bw101), .unset, .unset] [])) _
    refine st111 _ ?_
    show Steps p.tables e below (T111.setTop (mkF m 54 #[.val (.int p1), .val (.ref bw101), .unset, .unset] [(.ref w0)])) _
    refine st112 _ ?_
    show Steps p.tables e below (T112.setTop (mkF m 57 #[.val (.int p1), .val (.ref bw101), .unset, .unset] [(.ref s0)])) _
    refine XS.aloadN X112.here hx rfl (hb hby at_57) rfl rfl ?_
    show Steps p.tables e below (T112.setTop (mkF m 58 #[.val (.int p1), .val (.ref bw101), .unset, .unset] [(.ref bw101), (.ref s0)])) _
    refine XS.iconst X112.here hx rfl (hb hby at_58) ?_
    show Steps p.tables e below (T112.setTop (mkF m 59 #[.val (.int p1), .val (.ref bw101), .unset, .unset] [(.int (0 : Int32)), (.ref bw101), (.ref s0)])) _
    refine X112.aaload hx (j := (0 : Int32)) (v := (.ref s0)) (by rw [e112]; exact Ar_bw101_62.1) (State.isArrayOf_alike hZ108.alike Ar_bw101_62.2.1) rfl Ar_bw101_62.2.2 hinbw101_62 hatbw101_62 (g := (mkF m 59 #[.val (.int p1), .val (.ref bw101), .unset, .unset] [(.int (0 : Int32)), (.ref bw101), (.ref s0)])) rfl rfl (hb hby at_59) _ ?_
    show Steps p.tables e below (T112.setTop (mkF m 60 #[.val (.int p1), .val (.ref bw101), .unset, .unset] [(.ref s0), (.ref s0)])) _
    refine st113.trans ?_
    show Steps p.tables e below (T113.setTop (mkF m 63 #[.val (.int p1), .val (.ref bw101), .unset, .unset] [(.int (1 : Int32))])) _
    refine XS.ifNo X113.here hx rfl (hb hby at_63) rfl ((if0 _ _).trans (feq (by decide : ¬ ((1 : Int32) = (0 : Int32)))).1) ?_
    show Steps p.tables e below (T113.setTop (mkF m 66 #[.val (.int p1), .val (.ref bw101), .unset, .unset] [])) _
    refine st114 _ ?_
    show Steps p.tables e below (T114.setTop (mkF m 69 #[.val (.int p1), .val (.ref bw101), .unset, .unset] [(.ref w1)])) _
    refine st115 _ ?_
    show Steps p.tables e below (T115.setTop (mkF m 72 #[.val (.int p1), .val (.ref bw101), .unset, .unset] [(.ref s1)])) _
    refine XS.aloadN X115.here hx rfl (hb hby at_72) rfl rfl ?_
    show Steps p.tables e below (T115.setTop (mkF m 73 #[.val (.int p1), .val (.ref bw101), .unset, .unset] [(.ref bw101), (.ref s1)])) _
    refine XS.iconst X115.here hx rfl (hb hby at_73) ?_
    show Steps p.tables e below (T115.setTop (mkF m 74 #[.val (.int p1), .val (.ref bw101), .unset, .unset] [(.int (1 : Int32)), (.ref bw101), (.ref s1)])) _
    refine X115.aaload hx (j := (1 : Int32)) (v := (.ref s1)) (by rw [e115]; exact Ar_bw101_76.1) (State.isArrayOf_alike hZ108.alike Ar_bw101_76.2.1) rfl Ar_bw101_76.2.2 hinbw101_76 hatbw101_76 (g := (mkF m 74 #[.val (.int p1), .val (.ref bw101), .unset, .unset] [(.int (1 : Int32)), (.ref bw101), (.ref s1)])) rfl rfl (hb hby at_74) _ ?_
    show Steps p.tables e below (T115.setTop (mkF m 75 #[.val (.int p1), .val (.ref bw101), .unset, .unset] [(.ref s1), (.ref s1)])) _
    refine st116.trans ?_
    show Steps p.tables e below (T116.setTop (mkF m 78 #[.val (.int p1), .val (.ref bw101), .unset, .unset] [(.int (1 : Int32))])) _
    refine XS.ifNo X116.here hx rfl (hb hby at_78) rfl ((if0 _ _).trans (feq (by decide : ¬ ((1 : Int32) = (0 : Int32)))).1) ?_
    show Steps p.tables e below (T116.setTop (mkF m 81 #[.val (.int p1), .val (.ref bw101), .unset, .unset] [])) _
    refine st117 _ ?_
    show Steps p.tables e below (T117.setTop (mkF m 84 #[.val (.int p1), .val (.ref bw101), .unset, .unset] [(.ref w2)])) _
    refine st118 _ ?_
    show Steps p.tables e below (T118.setTop (mkF m 87 #[.val (.int p1), .val (.ref bw101), .unset, .unset] [(.ref s2)])) _
    refine XS.aloadN X118.here hx rfl (hb hby at_87) rfl rfl ?_
    show Steps p.tables e below (T118.setTop (mkF m 88 #[.val (.int p1), .val (.ref bw101), .unset, .unset] [(.ref bw101), (.ref s2)])) _
    refine XS.iconst X118.here hx rfl (hb hby at_88) ?_
    show Steps p.tables e below (T118.setTop (mkF m 89 #[.val (.int p1), .val (.ref bw101), .unset, .unset] [(.int (2 : Int32)), (.ref bw101), (.ref s2)])) _
    refine X118.aaload hx (j := (2 : Int32)) (v := (.ref s2)) (by rw [e118]; exact Ar_bw101_90.1) (State.isArrayOf_alike hZ108.alike Ar_bw101_90.2.1) rfl Ar_bw101_90.2.2 hinbw101_90 hatbw101_90 (g := (mkF m 89 #[.val (.int p1), .val (.ref bw101), .unset, .unset] [(.int (2 : Int32)), (.ref bw101), (.ref s2)])) rfl rfl (hb hby at_89) _ ?_
    show Steps p.tables e below (T118.setTop (mkF m 90 #[.val (.int p1), .val (.ref bw101), .unset, .unset] [(.ref s2), (.ref s2)])) _
    refine st119.trans ?_
    show Steps p.tables e below (T119.setTop (mkF m 93 #[.val (.int p1), .val (.ref bw101), .unset, .unset] [(.int (1 : Int32))])) _
    refine XS.ifYes X119.here hx rfl (pc0 := 93) (pc' := 98) rfl (hb hby at_93) rfl ((if0 _ _).trans (feq (by decide : ¬ ((1 : Int32) = (0 : Int32)))).2) (by decide) (by decide) ?_
    show Steps p.tables e below (T119.setTop (mkF m 98 #[.val (.int p1), .val (.ref bw101), .unset, .unset] [])) _
    refine XS.iloadN X119.here hx rfl (hb hby at_98) rfl ?_
    show Steps p.tables e below (T119.setTop (mkF m 99 #[.val (.int p1), .val (.ref bw101), .unset, .unset] [(.int p1)])) _
    refine X119.ldcInt hx hown108 (mvT hZ108 (wi hw 54 rfl)) (g := (mkF m 99 #[.val (.int p1), .val (.ref bw101), .unset, .unset] [(.int p1)])) rfl (hb hby at_99) _ ?_
    show Steps p.tables e below (T119.setTop (mkF m 101 #[.val (.int p1), .val (.ref bw101), .unset, .unset] [(.int (2147483647 : Int32)), (.int p1)])) _
    refine XS.iand X119.here hx rfl (hb hby at_101) rfl ?_
    show Steps p.tables e below (T119.setTop (mkF m 102 #[.val (.int p1), .val (.ref bw101), .unset, .unset] [(.int (p1 &&& (2147483647 : Int32)))])) _
    refine XS.iconst X119.here hx rfl (hb hby at_102) ?_
    show Steps p.tables e below (T119.setTop (mkF m 103 #[.val (.int p1), .val (.ref bw101), .unset, .unset] [(.int (3 : Int32)), (.int (p1 &&& (2147483647 : Int32)))])) _
    refine XS.irem X119.here hx rfl (hb hby at_103) rfl (by decide) ?_
    show Steps p.tables e below (T119.setTop (mkF m 104 #[.val (.int p1), .val (.ref bw101), .unset, .unset] [(.int (irm (p1 &&& (2147483647 : Int32)) (3 : Int32)))])) _
    rw [kk]
    show Steps p.tables e below (T119.setTop (mkF m 104 #[.val (.int p1), .val (.ref bw101), .unset, .unset] [(.int (1 : Int32))])) _
    refine XS.istoreN X119.here hx rfl (hb hby at_104) rfl (l' := #[.val (.int p1), .val (.ref bw101), .val (.int (1 : Int32)), .unset]) rfl ?_
    show Steps p.tables e below (T119.setTop (mkF m 105 #[.val (.int p1), .val (.ref bw101), .val (.int (1 : Int32)), .unset] [])) _
    refine XS.iloadN X119.here hx rfl (hb hby at_105) rfl ?_
    show Steps p.tables e below (T119.setTop (mkF m 106 #[.val (.int p1), .val (.ref bw101), .val (.int (1 : Int32)), .unset] [(.int (1 : Int32))])) _
    refine XS.ifYes X119.here hx rfl (pc0 := 106) (pc' := 116) rfl (hb hby at_106) rfl ((if0 _ _).trans (feq (by decide : ¬ ((1 : Int32) = (0 : Int32)))).2) (by decide) (by decide) ?_
    show Steps p.tables e below (T119.setTop (mkF m 116 #[.val (.int p1), .val (.ref bw101), .val (.int (1 : Int32)), .unset] [])) _
    refine XS.iloadN X119.here hx rfl (hb hby at_116) rfl ?_
    show Steps p.tables e below (T119.setTop (mkF m 117 #[.val (.int p1), .val (.ref bw101), .val (.int (1 : Int32)), .unset] [(.int (1 : Int32))])) _
    refine XS.iconst X119.here hx rfl (hb hby at_117) ?_
    show Steps p.tables e below (T119.setTop (mkF m 118 #[.val (.int p1), .val (.ref bw101), .val (.int (1 : Int32)), .unset] [(.int (1 : Int32)), (.int (1 : Int32))])) _
    refine XS.icmpNo X119.here hx rfl (hb hby at_118) rfl (teq (by decide : (1 : Int32) = (1 : Int32))).2 ?_
    show Steps p.tables e below (T119.setTop (mkF m 121 #[.val (.int p1), .val (.ref bw101), .val (.int (1 : Int32)), .unset] [])) _
    refine st120 _ ?_
    show Steps p.tables e below (T120.setTop (mkF m 124 #[.val (.int p1), .val (.ref bw101), .val (.int (1 : Int32)), .unset] [(.ref w1)])) _
    refine XS.astoreN X120.here hx rfl (hb hby at_124) rfl rfl (l' := #[.val (.int p1), .val (.ref bw101), .val (.int (1 : Int32)), .val (.ref w1)]) rfl ?_
    show Steps p.tables e below (T120.setTop (mkF m 125 #[.val (.int p1), .val (.ref bw101), .val (.int (1 : Int32)), .val (.ref w1)] [])) _
    refine XS.goto X120.here hx rfl (pc0 := 125) (pc' := 132) rfl (hb hby at_125) (by decide) (by decide) ?_
    show Steps p.tables e below (T120.setTop (mkF m 132 #[.val (.int p1), .val (.ref bw101), .val (.int (1 : Int32)), .val (.ref w1)] [])) _
    refine XS.aloadN X120.here hx rfl (hb hby at_132) rfl rfl ?_
    show Steps p.tables e below (T120.setTop (mkF m 133 #[.val (.int p1), .val (.ref bw101), .val (.int (1 : Int32)), .val (.ref w1)] [(.ref bw101)])) _
    refine XS.iloadN X120.here hx rfl (hb hby at_133) rfl ?_
    show Steps p.tables e below (T120.setTop (mkF m 134 #[.val (.int p1), .val (.ref bw101), .val (.int (1 : Int32)), .val (.ref w1)] [(.int (1 : Int32)), (.ref bw101)])) _
    refine X120.aaload hx (j := (1 : Int32)) (v := (.ref s1)) (by rw [e120]; exact Ar_bw101_130.1) (State.isArrayOf_alike hZ108.alike Ar_bw101_130.2.1) rfl Ar_bw101_130.2.2 hinbw101_130 hatbw101_130 (g := (mkF m 134 #[.val (.int p1), .val (.ref bw101), .val (.int (1 : Int32)), .val (.ref w1)] [(.int (1 : Int32)), (.ref bw101)])) rfl rfl (hb hby at_134) _ ?_
    show Steps p.tables e below (T120.setTop (mkF m 135 #[.val (.int p1), .val (.ref bw101), .val (.int (1 : Int32)), .val (.ref w1)] [(.ref s1)])) _
    refine st121 _ ?_
    show Steps p.tables e below (T121.setTop (mkF m 138 #[.val (.int p1), .val (.ref bw101), .val (.int (1 : Int32)), .val (.ref w1)] [(.ref w1)])) _
    refine XS.aloadN X121.here hx rfl (hb hby at_138) rfl rfl ?_
    show Steps p.tables e below (T121.setTop (mkF m 139 #[.val (.int p1), .val (.ref bw101), .val (.int (1 : Int32)), .val (.ref w1)] [(.ref w1), (.ref w1)])) _
    refine Jvm.RoadKit.acmp (g := (mkF m 139 #[.val (.int p1), .val (.ref bw101), .val (.int (1 : Int32)), .val (.ref w1)] [(.ref w1), (.ref w1)])) X121 hx rfl rfl rfl (pc0 := 139) (pc' := 142) (same := true) rfl (hb hby at_139) rfl (decide_eq_true rfl) (by decide) (by decide) ?_
    show Steps p.tables e below (T121.setTop (mkF m 142 #[.val (.int p1), .val (.ref bw101), .val (.int (1 : Int32)), .val (.ref w1)] [])) _
    refine XS.iconst X121.here hx rfl (hb hby at_142) ?_
    show Steps p.tables e below (T121.setTop (mkF m 143 #[.val (.int p1), .val (.ref bw101), .val (.int (1 : Int32)), .val (.ref w1)] [(.int (1 : Int32))])) _
    refine XS.goto X121.here hx rfl (pc0 := 143) (pc' := 147) rfl (hb hby at_143) (by decide) (by decide) ?_
    show Steps p.tables e below (T121.setTop (mkF m 147 #[.val (.int p1), .val (.ref bw101), .val (.int (1 : Int32)), .val (.ref w1)] [(.int (1 : Int32))])) _
    exact retN X121 hx (t := .boolean) Bd.returns (by simp) (hb hby at_147) hr
  · show Q0 h0 n0 _ T121.heap _
    rw [e121]
    exact ⟨rfl, N121⟩
set_option maxRecDepth 65536 in
set_option maxHeartbeats 40000000 in
theorem rm0_2 (l : Launch) (Z : State) (a0 : Array Value) (hw : ∀ d ∈ tables_1, d.before a0 Z = true) (ws : List Jvm.Cond) (p1 : Int32) (G1 : Int32) (kV : ClassId) (wV w0 w1 w2 : Addr) (s0 s1 s2 : Addr) (h0 : Heap) (n0 : Nat) (O0 : Old Z n0 h0) (S_CS : Sta Z Z.heap "java/lang/String" "COMPACT_STRINGS" "Z" (.int G1)) (hG1 : ¬ (G1 = (0 : Int32))) (S_V : Sta Z Z.heap "dev/tryst/tool/Workload$QueueKind" "$VALUES" "[Ldev/tryst/tool/Workload$QueueKind;" (.ref wV)) (A_V : Arv Z Z.heap wV kV (.object "dev/tryst/tool/Workload$QueueKind") (3 : Int32) [(.ref w0), (.ref w1), (.ref w2)] .null) (E_V : Exa Z Z.heap wV "[Ldev/tryst/tool/Workload$QueueKind;") (M0 : Fld Z Z.heap w0 "dev/tryst/tool/Workload$QueueKind" "mWord" "Ljava/lang/String;" (.ref s0)) (M1 : Fld Z Z.heap w1 "dev/tryst/tool/Workload$QueueKind" "mWord" "Ljava/lang/String;" (.ref s1)) (M2 : Fld Z Z.heap w2 "dev/tryst/tool/Workload$QueueKind" "mWord" "Ljava/lang/String;" (.ref s2)) (T0 : Str Z Z.heap s0 ([(97 : Int32), (114 : Int32), (114 : Int32), (97 : Int32), (121 : Int32)] : List Int32)) (T1 : Str Z Z.heap s1 ([(108 : Int32), (105 : Int32), (110 : Int32), (107 : Int32), (101 : Int32), (100 : Int32)] : List Int32)) (T2 : Str Z Z.heap s2 ([(108 : Int32), (105 : Int32), (110 : Int32), (107 : Int32), (101 : Int32), (100 : Int32), (45 : Int32), (100 : Int32), (101 : Int32), (113 : Int32), (117 : Int32), (101 : Int32)] : List Int32)) (S_K0 : Sta Z Z.heap "dev/tryst/tool/Workload$QueueKind" "ARRAY" "Ldev/tryst/tool/Workload$QueueKind;" (.ref w0)) (S_K1 : Sta Z Z.heap "dev/tryst/tool/Workload$QueueKind" "LINKED" "Ldev/tryst/tool/Workload$QueueKind;" (.ref w1)) (S_K2 : Sta Z Z.heap "dev/tryst/tool/Workload$QueueKind" "LINKED_DEQUE" "Ldev/tryst/tool/Workload$QueueKind;" (.ref w2)) (kk : (irm (p1 &&& (2147483647 : Int32)) (3 : Int32)) = (2 : Int32)) :
    MetFree l x (head1 (Jvm.Cond.code x code maxLocals ret :: ws) room_1) (fun a_ U => a_ = #[(.int p1)] ∧ Z.Warmed39 U.vm ∧ U.heap = h0 ∧ CHv Z consts_1 U.vm h0) (fun _ _ _ _ _ => True) (fun _ U o U' => ∃ v L, o = .returned v ∧ Q0 h0 n0 v U'.heap L ∧ CHr Z consts_1 U.vm U.heap U'.vm U'.heap ∧ ReturnedEndW U o U' L room_1.cells room_1.slots) := by
  refine MetFree.of_bodySF (plainFor_of_name pn_1) hisR ?_
  intro p e s m args below meth c s₁ Bd hml0 hP hK
  obtain ⟨rfl, hZ, hh, hC⟩ := hP
  have hx := Bd.exec
  have hby := Bd.bytes
  have hml : c.maxLocals = 4 := hml0
  have hown : s.vm.findClass "dev/tryst/tool/QueueKindWordsPinLaw" = some m.cls := findClass_of_methodNamed Bd.named
  have hnm := (name_of_methodNamed Bd.named Bd.method).1
  have X0 : Stand p l e room_1 (s.setVm s.vm) m #[(.int p1)] below meth c s₁ [] 0 0 := Stand.of_body Bd
  have e0 : s₁.heap = h0 := by rw [← hh, Bd.state]; rfl
  have N0 := Fr.nil n0
  have pre0 : ∀ tg, Steps p.tables e below (s₁.setTop (mkF m 0 #[.val (.int p1), .unset, .unset, .unset] [])) tg → Steps p.tables e below (s₁.setTop (entryFrame m #[(.int p1)] maxLocals)) tg := fun tg kq => castTop (ef_I_4m m p1) kq
  have hS0 : s.Since s.vm h0.size := (State.WarmedH.refl s).since _
  have hk0 : h0.size ≤ h0.size := Nat.le_refl _
  have CR0 : CHr Z consts_1 s.vm h0 s.vm h0 := CHr.refl hC
  obtain ⟨tm0, kbm0, Nm0, vsm0, sEm0, sVm0, sCm0, sKm0, scdm0, shpm0, shlm0⟩ := id T0
  obtain ⟨tm1, kbm1, Nm1, vsm1, sEm1, sVm1, sCm1, sKm1, scdm1, shpm1, shlm1⟩ := id T1
  obtain ⟨tm2, kbm2, Nm2, vsm2, sEm2, sVm2, sCm2, sKm2, scdm2, shpm2, shlm2⟩ := id T2
  obtain ⟨_, _, ⟨T101, L101, k101, n101⟩, -, X101, ⟨Lc101, hQ101, l101, y101, z101⟩, st101⟩ := Jvm.LawKit.callS X0 hx (y := (⟨"dev/tryst/tool/Workload$QueueKind", "words", "()[Ljava/lang/String;"⟩ : MethodName)) hown (mvT hZ (wi hw 0 rfl)) (mvT hZ (wi hw 1 rfl)) (mvT hZ (wi hw 2 rfl)) (mvT hZ (wi hw 3 rfl)) (by decide) (backOf (W := 0) (rm1 l Z a0 hw [] G1 kV wV w0 w1 w2 s0 s1 s2 h0 n0 O0 S_CS hG1 S_V A_V E_V M0 M1 M2 T0 T1 T2) hZ (wi hw 3 rfl) (wi hw 2 rfl) (by decide) (by decide)) (g := (mkF m 0 #[.val (.int p1), .unset, .unset, .unset] [])) rfl (by rw [hml]; rfl) (argsL := []) (rest := []) (lenOf pd_2 rfl) rfl (by show 2 * 0 + _ ≤ _; exact Nat.le_of_eq rfl) (hb hby at_0) (fun _ _ => ⟨rfl, e0, (by decide : 0 + 2 ≤ _), (by decide : 0 + 6 ≤ _)⟩)
  dsimp only [Pt.U, Pt.locs, Pt.cells, Pt.slots] at X101 l101 y101 z101 st101 hQ101
  subst l101 y101 z101
  obtain ⟨bw101, kw101, rfl, N101q, K101, szw101, Aw101⟩ := hQ101
  obtain ⟨h101, e101⟩ : ∃ z, T101.heap = z := ⟨_, rfl⟩
  rw [e101] at K101 Aw101
  have g_bw101 : n0 ≤ bw101 := Nat.le_trans (O0.1 ▸ O0.2.1) szw101
  have sz_bw101 : h0.size ≤ bw101 := Nat.le_trans (Nat.le_refl _) szw101
  have O101 := O0.keep K101 all0
  have CS101 := CHr.keep K101 sf0 CR0.1
  have CR101 := CR0.trans CS101
  have KK101 : Keep h0 h101 [] := (Keep.refl h0 []).trans K101 all0
  have N101 := Fr.app N0 N101q
  obtain ⟨cl_bw101_11, Ar_bw101_11, -, S_bw101_11, N_bw101_11, -, -⟩ := id (Aw101)
  obtain ⟨a102, T102, h102, k102, b102, kb102, X102, e102, E102, hS102, hk102, hZ102, hown102, lE102, lC102, lV102, lK102, la102, lb102, CS102, lL102, lne102, st102⟩ := ldcCH (s := s) (EL := consts_1) X101 hx hZ hown (wi hw 27 rfl) (fun d hd => hw d (own_strw d hd)) e101 hS0 (Nat.le_trans hk0 K101.1) (own_EW hw) (by decide) CR101.1 (vs := [(.int (97 : Int32)), (.int (114 : Int32)), (.int (114 : Int32)), (.int (97 : Int32)), (.int (121 : Int32))]) (z := (5 : Int32)) ⟨by decide, by decide⟩ (by decide) (by decide) (g := (mkF m 16 #[.val (.int p1), .val (.ref bw101), .unset, .unset] [])) rfl (hb hby at_16) (n := 20) (by decide) (by decide) (by decide) (by decide)
  have O102 := O101.ext E102
  have CR102 := CR101.trans CS102
  have KK102 : Keep h0 h102 [] := KK101.ext E102
  have lcd102 : StrChars.Road.CodA ([(97 : Int32), (114 : Int32), (114 : Int32), (97 : Int32), (121 : Int32)] : List Int32) 0 (5 : Int32) [(.int (97 : Int32)), (.int (114 : Int32)), (.int (114 : Int32)), (.int (97 : Int32)), (.int (121 : Int32))] := Or.inl ⟨rfl, rfl, rfl, by decide⟩
  have lhp102 : ∀ c ∈ ([(97 : Int32), (114 : Int32), (114 : Int32), (97 : Int32), (121 : Int32)] : List Int32), ¬ c < 0 ∧ ¬ (255 : Int32) < c := by decide
  have fV_bw101_2_103 := (Aw101.ext E102)
  obtain ⟨cl_bw101_24, Ar_bw101_24, q_bw101_24, S_bw101_24, N_bw101_24, H_bw101_24, G_bw101_24⟩ := id (fV_bw101_2_103)
  have hinbw101_24 : ¬ ((0 : Int32) < 0 ∨ cl_bw101_24.slots.size ≤ ((0 : Int32)).toNatClampNeg) := inb_of S_bw101_24 ⟨by decide, by decide⟩
  have hatbw101_24 : cl_bw101_24.slots[((0 : Int32)).toNatClampNeg]? = some (.ref s0) := H_bw101_24.at hinbw101_24 rfl
  obtain ⟨cq104, kq104, q104a, q104b, q104c⟩ := isOf hZ102 e102 lE102
  obtain ⟨_, _, ⟨T104, L104, k104, n104⟩, -, X104, ⟨Lc104, hQ104, l104, y104, z104⟩, st104⟩ := X102.virtualBack hx (y := (⟨"java/lang/String", "equals", "(Ljava/lang/Object;)Z"⟩ : MethodName)) (z := (⟨"java/lang/String", "equals", "(Ljava/lang/Object;)Z"⟩ : MethodName)) hown102 (mvT hZ102 (wi hw 35 rfl)) (mvT hZ102 (wi hw 36 rfl)) (notFace_of_selects (args := #[]) (mvT hZ102 (wi hw 38 rfl))) (mvT hZ102 (wi hw 38 rfl)) (mvT hZ102 (wi hw 37 rfl)) (by decide) (StrChars.Road.eqW (W := 0) hZ102 (fun d hd => hw d (own_w_eqW d hd)) (kI := 4) (wi hw 29 rfl) lE102 lV102 lC102 lK102 lcd102 (own_up _ lhp102) (by decide) (sEm0.ext O102.2) (sVm0.ext O102.2) (sCm0.ext O102.2) (sKm0.ext O102.2) scdm0 (own_up _ shpm0) shlm0 (S_CS.ext O102.2) hG1 (by decide) (by decide)) q104a q104c (g := (mkF m 21 #[.val (.int p1), .val (.ref bw101), .unset, .unset] [(.ref s0), (.ref a102)])) rfl (by rw [hml]; rfl) (Steps.refl _) (argsL := [(.ref s0)]) (rest := []) (lenOf pd_1 rfl) rfl (by show 2 * 0 + _ ≤ _; exact Nat.le_of_eq rfl) (hb hby at_21) (fun _ _ => ⟨rfl, e102, (by decide : 4 + 0 ≤ _), (by decide : 30 + 0 ≤ _)⟩)
  dsimp only [Pt.U, Pt.locs, Pt.cells, Pt.slots] at X104 l104 y104 z104 st104 hQ104
  subst l104 y104 z104
  obtain ⟨hv104, rfl, hh104⟩ := hQ104
  obtain rfl := (hv104.resolve_right (fun q => q.2 ((by decide) : ([(97 : Int32), (114 : Int32), (114 : Int32), (97 : Int32), (121 : Int32)] : List Int32) = ([(97 : Int32), (114 : Int32), (114 : Int32), (97 : Int32), (121 : Int32)] : List Int32)))).1
  have N104q : Fr n0 ([] : List Loc) := Fr.nil n0
  have e104 : T104.heap = h102 := hh104
  have N104 := Fr.app N101 N104q
  obtain ⟨a105, T105, h105, k105, b105, kb105, X105, e105, E105, hS105, hk105, hZ105, hown105, lE105, lC105, lV105, lK105, la105, lb105, CS105, lL105, lne105, st105⟩ := ldcCH (s := s) (EL := consts_1) X104 hx hZ102 hown102 (wi hw 48 rfl) (fun d hd => hw d (own_strw d hd)) e104 hS102 hk102 (own_EW hw) (by decide) CR102.1 (vs := [(.int (108 : Int32)), (.int (105 : Int32)), (.int (110 : Int32)), (.int (107 : Int32)), (.int (101 : Int32)), (.int (100 : Int32))]) (z := (6 : Int32)) ⟨by decide, by decide⟩ (by decide) (by decide) (g := (mkF m 27 #[.val (.int p1), .val (.ref bw101), .unset, .unset] [])) rfl (hb hby at_27) (n := 24) (by decide) (by decide) (by decide) (by decide)
  have O105 := O102.ext E105
  have CR105 := CR102.trans CS105
  have KK105 : Keep h0 h105 [] := KK102.ext E105
  have lcd105 : StrChars.Road.CodA ([(108 : Int32), (105 : Int32), (110 : Int32), (107 : Int32), (101 : Int32), (100 : Int32)] : List Int32) 0 (6 : Int32) [(.int (108 : Int32)), (.int (105 : Int32)), (.int (110 : Int32)), (.int (107 : Int32)), (.int (101 : Int32)), (.int (100 : Int32))] := Or.inl ⟨rfl, rfl, rfl, by decide⟩
  have lhp105 : ∀ c ∈ ([(108 : Int32), (105 : Int32), (110 : Int32), (107 : Int32), (101 : Int32), (100 : Int32)] : List Int32), ¬ c < 0 ∧ ¬ (255 : Int32) < c := by decide
  have fV_bw101_3_106 := (fV_bw101_2_103.ext E105)
  obtain ⟨cl_bw101_36, Ar_bw101_36, q_bw101_36, S_bw101_36, N_bw101_36, H_bw101_36, G_bw101_36⟩ := id (fV_bw101_3_106)
  have hinbw101_36 : ¬ ((1 : Int32) < 0 ∨ cl_bw101_36.slots.size ≤ ((1 : Int32)).toNatClampNeg) := inb_of S_bw101_36 ⟨by decide, by decide⟩
  have hatbw101_36 : cl_bw101_36.slots[((1 : Int32)).toNatClampNeg]? = some (.ref s1) := H_bw101_36.at hinbw101_36 rfl
  obtain ⟨cq107, kq107, q107a, q107b, q107c⟩ := isOf hZ105 e105 lE105
  obtain ⟨_, _, ⟨T107, L107, k107, n107⟩, -, X107, ⟨Lc107, hQ107, l107, y107, z107⟩, st107⟩ := X105.virtualBack hx (y := (⟨"java/lang/String", "equals", "(Ljava/lang/Object;)Z"⟩ : MethodName)) (z := (⟨"java/lang/String", "equals", "(Ljava/lang/Object;)Z"⟩ : MethodName)) hown105 (mvT hZ105 (wi hw 35 rfl)) (mvT hZ105 (wi hw 36 rfl)) (notFace_of_selects (args := #[]) (mvT hZ105 (wi hw 38 rfl))) (mvT hZ105 (wi hw 38 rfl)) (mvT hZ105 (wi hw 37 rfl)) (by decide) (StrChars.Road.eqW (W := 0) hZ105 (fun d hd => hw d (own_w_eqW d hd)) (kI := 4) (wi hw 29 rfl) lE105 lV105 lC105 lK105 lcd105 (own_up _ lhp105) (by decide) (sEm1.ext O105.2) (sVm1.ext O105.2) (sCm1.ext O105.2) (sKm1.ext O105.2) scdm1 (own_up _ shpm1) shlm1 (S_CS.ext O105.2) hG1 (by decide) (by decide)) q107a q107c (g := (mkF m 32 #[.val (.int p1), .val (.ref bw101), .unset, .unset] [(.ref s1), (.ref a105)])) rfl (by rw [hml]; rfl) (Steps.refl _) (argsL := [(.ref s1)]) (rest := []) (lenOf pd_1 rfl) rfl (by show 2 * 0 + _ ≤ _; exact Nat.le_of_eq rfl) (hb hby at_32) (fun _ _ => ⟨rfl, e105, (by decide : 6 + 0 ≤ _), (by decide : 58 + 0 ≤ _)⟩)
  dsimp only [Pt.U, Pt.locs, Pt.cells, Pt.slots] at X107 l107 y107 z107 st107 hQ107
  subst l107 y107 z107
  obtain ⟨hv107, rfl, hh107⟩ := hQ107
  obtain rfl := (hv107.resolve_right (fun q => q.2 ((by decide) : ([(108 : Int32), (105 : Int32), (110 : Int32), (107 : Int32), (101 : Int32), (100 : Int32)] : List Int32) = ([(108 : Int32), (105 : Int32), (110 : Int32), (107 : Int32), (101 : Int32), (100 : Int32)] : List Int32)))).1
  have N107q : Fr n0 ([] : List Loc) := Fr.nil n0
  have e107 : T107.heap = h105 := hh107
  have N107 := Fr.app N104 N107q
  obtain ⟨a108, T108, h108, k108, b108, kb108, X108, e108, E108, hS108, hk108, hZ108, hown108, lE108, lC108, lV108, lK108, la108, lb108, CS108, lL108, lne108, st108⟩ := ldcCH (s := s) (EL := consts_1) X107 hx hZ105 hown105 (wi hw 49 rfl) (fun d hd => hw d (own_strw d hd)) e107 hS105 hk105 (own_EW hw) (by decide) CR105.1 (vs := [(.int (108 : Int32)), (.int (105 : Int32)), (.int (110 : Int32)), (.int (107 : Int32)), (.int (101 : Int32)), (.int (100 : Int32)), (.int (45 : Int32)), (.int (100 : Int32)), (.int (101 : Int32)), (.int (113 : Int32)), (.int (117 : Int32)), (.int (101 : Int32))]) (z := (12 : Int32)) ⟨by decide, by decide⟩ (by decide) (by decide) (g := (mkF m 38 #[.val (.int p1), .val (.ref bw101), .unset, .unset] [])) rfl (hb hby at_38) (n := 48) (by decide) (by decide) (by decide) (by decide)
  have O108 := O105.ext E108
  have CR108 := CR105.trans CS108
  have KK108 : Keep h0 h108 [] := KK105.ext E108
  have lcd108 : StrChars.Road.CodA ([(108 : Int32), (105 : Int32), (110 : Int32), (107 : Int32), (101 : Int32), (100 : Int32), (45 : Int32), (100 : Int32), (101 : Int32), (113 : Int32), (117 : Int32), (101 : Int32)] : List Int32) 0 (12 : Int32) [(.int (108 : Int32)), (.int (105 : Int32)), (.int (110 : Int32)), (.int (107 : Int32)), (.int (101 : Int32)), (.int (100 : Int32)), (.int (45 : Int32)), (.int (100 : Int32)), (.int (101 : Int32)), (.int (113 : Int32)), (.int (117 : Int32)), (.int (101 : Int32))] := Or.inl ⟨rfl, rfl, rfl, by decide⟩
  have lhp108 : ∀ c ∈ ([(108 : Int32), (105 : Int32), (110 : Int32), (107 : Int32), (101 : Int32), (100 : Int32), (45 : Int32), (100 : Int32), (101 : Int32), (113 : Int32), (117 : Int32), (101 : Int32)] : List Int32), ¬ c < 0 ∧ ¬ (255 : Int32) < c := by decide
  have fV_bw101_4_109 := (fV_bw101_3_106.ext E108)
  obtain ⟨cl_bw101_48, Ar_bw101_48, q_bw101_48, S_bw101_48, N_bw101_48, H_bw101_48, G_bw101_48⟩ := id (fV_bw101_4_109)
  have hinbw101_48 : ¬ ((2 : Int32) < 0 ∨ cl_bw101_48.slots.size ≤ ((2 : Int32)).toNatClampNeg) := inb_of S_bw101_48 ⟨by decide, by decide⟩
  have hatbw101_48 : cl_bw101_48.slots[((2 : Int32)).toNatClampNeg]? = some (.ref s2) := H_bw101_48.at hinbw101_48 rfl
  obtain ⟨cq110, kq110, q110a, q110b, q110c⟩ := isOf hZ108 e108 lE108
  obtain ⟨_, _, ⟨T110, L110, k110, n110⟩, -, X110, ⟨Lc110, hQ110, l110, y110, z110⟩, st110⟩ := X108.virtualBack hx (y := (⟨"java/lang/String", "equals", "(Ljava/lang/Object;)Z"⟩ : MethodName)) (z := (⟨"java/lang/String", "equals", "(Ljava/lang/Object;)Z"⟩ : MethodName)) hown108 (mvT hZ108 (wi hw 35 rfl)) (mvT hZ108 (wi hw 36 rfl)) (notFace_of_selects (args := #[]) (mvT hZ108 (wi hw 38 rfl))) (mvT hZ108 (wi hw 38 rfl)) (mvT hZ108 (wi hw 37 rfl)) (by decide) (StrChars.Road.eqW (W := 0) hZ108 (fun d hd => hw d (own_w_eqW d hd)) (kI := 4) (wi hw 29 rfl) lE108 lV108 lC108 lK108 lcd108 (own_up _ lhp108) (by decide) (sEm2.ext O108.2) (sVm2.ext O108.2) (sCm2.ext O108.2) (sKm2.ext O108.2) scdm2 (own_up _ shpm2) shlm2 (S_CS.ext O108.2) hG1 (by decide) (by decide)) q110a q110c (g := (mkF m 43 #[.val (.int p1), .val (.ref bw101), .unset, .unset] [(.ref s2), (.ref a108)])) rfl (by rw [hml]; rfl) (Steps.refl _) (argsL := [(.ref s2)]) (rest := []) (lenOf pd_1 rfl) rfl (by show 2 * 0 + _ ≤ _; exact Nat.le_of_eq rfl) (hb hby at_43) (fun _ _ => ⟨rfl, e108, (by decide : 8 + 0 ≤ _), (by decide : 110 + 0 ≤ _)⟩)
  dsimp only [Pt.U, Pt.locs, Pt.cells, Pt.slots] at X110 l110 y110 z110 st110 hQ110
  subst l110 y110 z110
  obtain ⟨hv110, rfl, hh110⟩ := hQ110
  obtain rfl := (hv110.resolve_right (fun q => q.2 ((by decide) : ([(108 : Int32), (105 : Int32), (110 : Int32), (107 : Int32), (101 : Int32), (100 : Int32), (45 : Int32), (100 : Int32), (101 : Int32), (113 : Int32), (117 : Int32), (101 : Int32)] : List Int32) = ([(108 : Int32), (105 : Int32), (110 : Int32), (107 : Int32), (101 : Int32), (100 : Int32), (45 : Int32), (100 : Int32), (101 : Int32), (113 : Int32), (117 : Int32), (101 : Int32)] : List Int32)))).1
  have N110q : Fr n0 ([] : List Loc) := Fr.nil n0
  have e110 : T110.heap = h108 := hh110
  have N110 := Fr.app N107 N110q
  obtain ⟨T111, X111, e111, st111⟩ := getS2 X110 hx hZ108 hown108 (host := "") (Or.inl (wi hw 50 rfl)) Via.refl e110 (S_K0.ext O108.2) (g := (mkF m 51 #[.val (.int p1), .val (.ref bw101), .unset, .unset] [])) rfl (hb hby at_51)
  obtain ⟨T112, X112, e112, st112⟩ := getF X111 hx hZ108 hown108 (host := "") (Or.inl (wi hw 51 rfl)) Via.refl e111 (M0.ext O108.2) (g := (mkF m 54 #[.val (.int p1), .val (.ref bw101), .unset, .unset] [(.ref w0)])) rfl rfl (hb hby at_54)
  obtain ⟨cl_bw101_62, Ar_bw101_62, q_bw101_62, S_bw101_62, N_bw101_62, H_bw101_62, G_bw101_62⟩ := id (fV_bw101_4_109)
  have hinbw101_62 : ¬ ((0 : Int32) < 0 ∨ cl_bw101_62.slots.size ≤ ((0 : Int32)).toNatClampNeg) := inb_of S_bw101_62 ⟨by decide, by decide⟩
  have hatbw101_62 : cl_bw101_62.slots[((0 : Int32)).toNatClampNeg]? = some (.ref s0) := H_bw101_62.at hinbw101_62 rfl
  obtain ⟨cq113, kq113, q113a, q113b, q113c⟩ := isOf hZ108 e112 (sEm0.ext O108.2)
  obtain ⟨_, _, ⟨T113, L113, k113, n113⟩, -, X113, ⟨Lc113, hQ113, l113, y113, z113⟩, st113⟩ := X112.virtualBack hx (y := (⟨"java/lang/String", "equals", "(Ljava/lang/Object;)Z"⟩ : MethodName)) (z := (⟨"java/lang/String", "equals", "(Ljava/lang/Object;)Z"⟩ : MethodName)) hown108 (mvT hZ108 (wi hw 35 rfl)) (mvT hZ108 (wi hw 36 rfl)) (notFace_of_selects (args := #[]) (mvT hZ108 (wi hw 38 rfl))) (mvT hZ108 (wi hw 38 rfl)) (mvT hZ108 (wi hw 37 rfl)) (by decide) (StrChars.Road.eqW (W := 0) hZ108 (fun d hd => hw d (own_w_eqW d hd)) (kI := 4) (wi hw 29 rfl) (sEm0.ext O108.2) (sVm0.ext O108.2) (sCm0.ext O108.2) (sKm0.ext O108.2) scdm0 (own_up _ shpm0) shlm0 (sEm0.ext O108.2) (sVm0.ext O108.2) (sCm0.ext O108.2) (sKm0.ext O108.2) scdm0 (own_up _ shpm0) shlm0 (S_CS.ext O108.2) hG1 (by decide) (by decide)) q113a q113c (g := (mkF m 60 #[.val (.int p1), .val (.ref bw101), .unset, .unset] [(.ref s0), (.ref s0)])) rfl (by rw [hml]; rfl) (Steps.refl _) (argsL := [(.ref s0)]) (rest := []) (lenOf pd_1 rfl) rfl (by show 2 * 0 + _ ≤ _; exact Nat.le_of_eq rfl) (hb hby at_60) (fun _ _ => ⟨rfl, e112, (by decide : 8 + 0 ≤ _), (by decide : 110 + 0 ≤ _)⟩)
  dsimp only [Pt.U, Pt.locs, Pt.cells, Pt.slots] at X113 l113 y113 z113 st113 hQ113
  subst l113 y113 z113
  obtain ⟨hv113, rfl, hh113⟩ := hQ113
  obtain rfl := (hv113.resolve_right (fun q => q.2 ((by decide) : ([(97 : Int32), (114 : Int32), (114 : Int32), (97 : Int32), (121 : Int32)] : List Int32) = ([(97 : Int32), (114 : Int32), (114 : Int32), (97 : Int32), (121 : Int32)] : List Int32)))).1
  have N113q : Fr n0 ([] : List Loc) := Fr.nil n0
  have e113 : T113.heap = h108 := hh113
  have N113 := Fr.app N110 N113q
  obtain ⟨T114, X114, e114, st114⟩ := getS2 X113 hx hZ108 hown108 (host := "") (Or.inl (wi hw 52 rfl)) Via.refl e113 (S_K1.ext O108.2) (g := (mkF m 66 #[.val (.int p1), .val (.ref bw101), .unset, .unset] [])) rfl (hb hby at_66)
  obtain ⟨T115, X115, e115, st115⟩ := getF X114 hx hZ108 hown108 (host := "") (Or.inl (wi hw 51 rfl)) Via.refl e114 (M1.ext O108.2) (g := (mkF m 69 #[.val (.int p1), .val (.ref bw101), .unset, .unset] [(.ref w1)])) rfl rfl (hb hby at_69)
  obtain ⟨cl_bw101_76, Ar_bw101_76, q_bw101_76, S_bw101_76, N_bw101_76, H_bw101_76, G_bw101_76⟩ := id (fV_bw101_4_109)
  have hinbw101_76 : ¬ ((1 : Int32) < 0 ∨ cl_bw101_76.slots.size ≤ ((1 : Int32)).toNatClampNeg) := inb_of S_bw101_76 ⟨by decide, by decide⟩
  have hatbw101_76 : cl_bw101_76.slots[((1 : Int32)).toNatClampNeg]? = some (.ref s1) := H_bw101_76.at hinbw101_76 rfl
  obtain ⟨cq116, kq116, q116a, q116b, q116c⟩ := isOf hZ108 e115 (sEm1.ext O108.2)
  obtain ⟨_, _, ⟨T116, L116, k116, n116⟩, -, X116, ⟨Lc116, hQ116, l116, y116, z116⟩, st116⟩ := X115.virtualBack hx (y := (⟨"java/lang/String", "equals", "(Ljava/lang/Object;)Z"⟩ : MethodName)) (z := (⟨"java/lang/String", "equals", "(Ljava/lang/Object;)Z"⟩ : MethodName)) hown108 (mvT hZ108 (wi hw 35 rfl)) (mvT hZ108 (wi hw 36 rfl)) (notFace_of_selects (args := #[]) (mvT hZ108 (wi hw 38 rfl))) (mvT hZ108 (wi hw 38 rfl)) (mvT hZ108 (wi hw 37 rfl)) (by decide) (StrChars.Road.eqW (W := 0) hZ108 (fun d hd => hw d (own_w_eqW d hd)) (kI := 4) (wi hw 29 rfl) (sEm1.ext O108.2) (sVm1.ext O108.2) (sCm1.ext O108.2) (sKm1.ext O108.2) scdm1 (own_up _ shpm1) shlm1 (sEm1.ext O108.2) (sVm1.ext O108.2) (sCm1.ext O108.2) (sKm1.ext O108.2) scdm1 (own_up _ shpm1) shlm1 (S_CS.ext O108.2) hG1 (by decide) (by decide)) q116a q116c (g := (mkF m 75 #[.val (.int p1), .val (.ref bw101), .unset, .unset] [(.ref s1), (.ref s1)])) rfl (by rw [hml]; rfl) (Steps.refl _) (argsL := [(.ref s1)]) (rest := []) (lenOf pd_1 rfl) rfl (by show 2 * 0 + _ ≤ _; exact Nat.le_of_eq rfl) (hb hby at_75) (fun _ _ => ⟨rfl, e115, (by decide : 8 + 0 ≤ _), (by decide : 110 + 0 ≤ _)⟩)
  dsimp only [Pt.U, Pt.locs, Pt.cells, Pt.slots] at X116 l116 y116 z116 st116 hQ116
  subst l116 y116 z116
  obtain ⟨hv116, rfl, hh116⟩ := hQ116
  obtain rfl := (hv116.resolve_right (fun q => q.2 ((by decide) : ([(108 : Int32), (105 : Int32), (110 : Int32), (107 : Int32), (101 : Int32), (100 : Int32)] : List Int32) = ([(108 : Int32), (105 : Int32), (110 : Int32), (107 : Int32), (101 : Int32), (100 : Int32)] : List Int32)))).1
  have N116q : Fr n0 ([] : List Loc) := Fr.nil n0
  have e116 : T116.heap = h108 := hh116
  have N116 := Fr.app N113 N116q
  obtain ⟨T117, X117, e117, st117⟩ := getS2 X116 hx hZ108 hown108 (host := "") (Or.inl (wi hw 53 rfl)) Via.refl e116 (S_K2.ext O108.2) (g := (mkF m 81 #[.val (.int p1), .val (.ref bw101), .unset, .unset] [])) rfl (hb hby at_81)
  obtain ⟨T118, X118, e118, st118⟩ := getF X117 hx hZ108 hown108 (host := "") (Or.inl (wi hw 51 rfl)) Via.refl e117 (M2.ext O108.2) (g := (mkF m 84 #[.val (.int p1), .val (.ref bw101), .unset, .unset] [(.ref w2)])) rfl rfl (hb hby at_84)
  obtain ⟨cl_bw101_90, Ar_bw101_90, q_bw101_90, S_bw101_90, N_bw101_90, H_bw101_90, G_bw101_90⟩ := id (fV_bw101_4_109)
  have hinbw101_90 : ¬ ((2 : Int32) < 0 ∨ cl_bw101_90.slots.size ≤ ((2 : Int32)).toNatClampNeg) := inb_of S_bw101_90 ⟨by decide, by decide⟩
  have hatbw101_90 : cl_bw101_90.slots[((2 : Int32)).toNatClampNeg]? = some (.ref s2) := H_bw101_90.at hinbw101_90 rfl
  obtain ⟨cq119, kq119, q119a, q119b, q119c⟩ := isOf hZ108 e118 (sEm2.ext O108.2)
  obtain ⟨_, _, ⟨T119, L119, k119, n119⟩, -, X119, ⟨Lc119, hQ119, l119, y119, z119⟩, st119⟩ := X118.virtualBack hx (y := (⟨"java/lang/String", "equals", "(Ljava/lang/Object;)Z"⟩ : MethodName)) (z := (⟨"java/lang/String", "equals", "(Ljava/lang/Object;)Z"⟩ : MethodName)) hown108 (mvT hZ108 (wi hw 35 rfl)) (mvT hZ108 (wi hw 36 rfl)) (notFace_of_selects (args := #[]) (mvT hZ108 (wi hw 38 rfl))) (mvT hZ108 (wi hw 38 rfl)) (mvT hZ108 (wi hw 37 rfl)) (by decide) (StrChars.Road.eqW (W := 0) hZ108 (fun d hd => hw d (own_w_eqW d hd)) (kI := 4) (wi hw 29 rfl) (sEm2.ext O108.2) (sVm2.ext O108.2) (sCm2.ext O108.2) (sKm2.ext O108.2) scdm2 (own_up _ shpm2) shlm2 (sEm2.ext O108.2) (sVm2.ext O108.2) (sCm2.ext O108.2) (sKm2.ext O108.2) scdm2 (own_up _ shpm2) shlm2 (S_CS.ext O108.2) hG1 (by decide) (by decide)) q119a q119c (g := (mkF m 90 #[.val (.int p1), .val (.ref bw101), .unset, .unset] [(.ref s2), (.ref s2)])) rfl (by rw [hml]; rfl) (Steps.refl _) (argsL := [(.ref s2)]) (rest := []) (lenOf pd_1 rfl) rfl (by show 2 * 0 + _ ≤ _; exact Nat.le_of_eq rfl) (hb hby at_90) (fun _ _ => ⟨rfl, e118, (by decide : 8 + 0 ≤ _), (by decide : 110 + 0 ≤ _)⟩)
  dsimp only [Pt.U, Pt.locs, Pt.cells, Pt.slots] at X119 l119 y119 z119 st119 hQ119
  subst l119 y119 z119
  obtain ⟨hv119, rfl, hh119⟩ := hQ119
  obtain rfl := (hv119.resolve_right (fun q => q.2 ((by decide) : ([(108 : Int32), (105 : Int32), (110 : Int32), (107 : Int32), (101 : Int32), (100 : Int32), (45 : Int32), (100 : Int32), (101 : Int32), (113 : Int32), (117 : Int32), (101 : Int32)] : List Int32) = ([(108 : Int32), (105 : Int32), (110 : Int32), (107 : Int32), (101 : Int32), (100 : Int32), (45 : Int32), (100 : Int32), (101 : Int32), (113 : Int32), (117 : Int32), (101 : Int32)] : List Int32)))).1
  have N119q : Fr n0 ([] : List Loc) := Fr.nil n0
  have e119 : T119.heap = h108 := hh119
  have N119 := Fr.app N116 N119q
  obtain ⟨T120, X120, e120, st120⟩ := getS2 X119 hx hZ108 hown108 (host := "") (Or.inl (wi hw 53 rfl)) Via.refl e119 (S_K2.ext O108.2) (g := (mkF m 128 #[.val (.int p1), .val (.ref bw101), .val (.int (2 : Int32)), .unset] [])) rfl (hb hby at_128)
  obtain ⟨cl_bw101_128, Ar_bw101_128, q_bw101_128, S_bw101_128, N_bw101_128, H_bw101_128, G_bw101_128⟩ := id (fV_bw101_4_109)
  have hinbw101_128 : ¬ ((2 : Int32) < 0 ∨ cl_bw101_128.slots.size ≤ ((2 : Int32)).toNatClampNeg) := inb_of S_bw101_128 ⟨by decide, by decide⟩
  have hatbw101_128 : cl_bw101_128.slots[((2 : Int32)).toNatClampNeg]? = some (.ref s2) := H_bw101_128.at hinbw101_128 rfl
  obtain ⟨_, _, ⟨T121, L121, k121, n121⟩, -, X121, ⟨Lc121, hQ121, l121, y121, z121⟩, st121⟩ := Jvm.LawKit.callS X120 hx (y := (⟨"dev/tryst/tool/Workload$QueueKind", "of", "(Ljava/lang/String;)Ldev/tryst/tool/Workload$QueueKind;"⟩ : MethodName)) hown108 (mvT hZ108 (wi hw 55 rfl)) (mvT hZ108 (wi hw 56 rfl)) (mvT hZ108 (wi hw 2 rfl)) (mvT hZ108 (wi hw 57 rfl)) (by decide) (backOf (W := 0) (rm7_2 l Z a0 hw [] G1 kV wV w0 w1 w2 s0 s1 s2 h108 n0 O108 S_CS hG1 S_V A_V E_V M0 M1 M2 T0 T1 T2) hZ108 (wi hw 57 rfl) (wi hw 2 rfl) (by decide) (by decide)) (g := (mkF m 135 #[.val (.int p1), .val (.ref bw101), .val (.int (2 : Int32)), .val (.ref w2)] [(.ref s2)])) rfl (by rw [hml]; rfl) (argsL := [(.ref s2)]) (rest := []) (lenOf pd_3 rfl) rfl (by show 2 * 0 + _ ≤ _; exact Nat.le_of_eq rfl) (hb hby at_135) (fun _ _ => ⟨rfl, e120, (by decide : 8 + 1 ≤ _), (by decide : 110 + 3 ≤ _)⟩)
  dsimp only [Pt.U, Pt.locs, Pt.cells, Pt.slots] at X121 l121 y121 z121 st121 hQ121
  subst l121 y121 z121
  obtain ⟨rfl, N121q, K121⟩ := hQ121
  obtain ⟨h121, e121⟩ : ∃ z, T121.heap = z := ⟨_, rfl⟩
  rw [e121] at K121
  have O121 := O108.keep K121 all0
  have CS121 := CHr.keep K121 sf0 CR108.1
  have CR121 := CR108.trans CS121
  have KK121 : Keep h0 h121 [] := KK108.trans K121 all0
  have N121 := Fr.app N119 N121q
  obtain ⟨fs, hr, hrun, hended, hREW⟩ := X121.leaveW hS108 (by rw [e121]; exact (Nat.le_trans hk108 K121.1)) (v := some (.int (1 : Int32))) (fun h => by rw [Bd.returns] at h; cases h)
  refine ⟨_, _, pre0 _ ?_, hrun, hended, _, _, rfl, ?_, (by rw [hh]; show CHr Z consts_1 s.vm h0 T121.vm T121.heap; rw [e121]; exact CR121.trans (CHv.at X121 hZ108 (own_EW hw) CR121.1)), hREW.1, hREW.2.1, hREW.2.2.1, hREW.2.2.2.mono (by decide) (by decide)⟩
  · show Steps p.tables e below (s₁.setTop (mkF m 0 #[.val (.int p1), .unset, .unset, .unset] [])) _
    refine st101 _ ?_
    show Steps p.tables e below (T101.setTop (mkF m 3 #[.val (.int p1), .unset, .unset, .unset] [(.ref bw101)])) _
    refine XS.astoreN X101.here hx rfl (hb hby at_3) rfl rfl (l' := #[.val (.int p1), .val (.ref bw101), .unset, .unset]) rfl ?_
    show Steps p.tables e below (T101.setTop (mkF m 4 #[.val (.int p1), .val (.ref bw101), .unset, .unset] [])) _
    refine XS.aloadN X101.here hx rfl (hb hby at_4) rfl rfl ?_
    show Steps p.tables e below (T101.setTop (mkF m 5 #[.val (.int p1), .val (.ref bw101), .unset, .unset] [(.ref bw101)])) _
    refine XS.ifnullNo X101.here hx rfl (hb hby at_5) rfl ?_
    show Steps p.tables e below (T101.setTop (mkF m 8 #[.val (.int p1), .val (.ref bw101), .unset, .unset] [])) _
    refine XS.aloadN X101.here hx rfl (hb hby at_8) rfl rfl ?_
    show Steps p.tables e below (T101.setTop (mkF m 9 #[.val (.int p1), .val (.ref bw101), .unset, .unset] [(.ref bw101)])) _
    refine X101.arraylength hx (by rw [e101]; exact Ar_bw101_11.1) (State.isArrayOf_alike hZ.alike Ar_bw101_11.2.1) (g := (mkF m 9 #[.val (.int p1), .val (.ref bw101), .unset, .unset] [(.ref bw101)])) rfl rfl (hb hby at_9) _ ?_
    rw [len_of S_bw101_11 N_bw101_11]
    show Steps p.tables e below (T101.setTop (mkF m 10 #[.val (.int p1), .val (.ref bw101), .unset, .unset] [(.int (3 : Int32))])) _
    refine XS.iconst X101.here hx rfl (hb hby at_10) ?_
    show Steps p.tables e below (T101.setTop (mkF m 11 #[.val (.int p1), .val (.ref bw101), .unset, .unset] [(.int (3 : Int32)), (.int (3 : Int32))])) _
    refine XS.icmpYes X101.here hx rfl (pc0 := 11) (pc' := 16) rfl (hb hby at_11) rfl (teq (by decide : (3 : Int32) = (3 : Int32))).1 (by decide) (by decide) ?_
    show Steps p.tables e below (T101.setTop (mkF m 16 #[.val (.int p1), .val (.ref bw101), .unset, .unset] [])) _
    refine st102 _ ?_
    show Steps p.tables e below (T102.setTop (mkF m 18 #[.val (.int p1), .val (.ref bw101), .unset, .unset] [(.ref a102)])) _
    refine XS.aloadN X102.here hx rfl (hb hby at_18) rfl rfl ?_
    show Steps p.tables e below (T102.setTop (mkF m 19 #[.val (.int p1), .val (.ref bw101), .unset, .unset] [(.ref bw101), (.ref a102)])) _
    refine XS.iconst X102.here hx rfl (hb hby at_19) ?_
    show Steps p.tables e below (T102.setTop (mkF m 20 #[.val (.int p1), .val (.ref bw101), .unset, .unset] [(.int (0 : Int32)), (.ref bw101), (.ref a102)])) _
    refine X102.aaload hx (j := (0 : Int32)) (v := (.ref s0)) (by rw [e102]; exact Ar_bw101_24.1) (State.isArrayOf_alike hZ102.alike Ar_bw101_24.2.1) rfl Ar_bw101_24.2.2 hinbw101_24 hatbw101_24 (g := (mkF m 20 #[.val (.int p1), .val (.ref bw101), .unset, .unset] [(.int (0 : Int32)), (.ref bw101), (.ref a102)])) rfl rfl (hb hby at_20) _ ?_
    show Steps p.tables e below (T102.setTop (mkF m 21 #[.val (.int p1), .val (.ref bw101), .unset, .unset] [(.ref s0), (.ref a102)])) _
    refine st104.trans ?_
    show Steps p.tables e below (T104.setTop (mkF m 24 #[.val (.int p1), .val (.ref bw101), .unset, .unset] [(.int (1 : Int32))])) _
    refine XS.ifNo X104.here hx rfl (hb hby at_24) rfl ((if0 _ _).trans (feq (by decide : ¬ ((1 : Int32) = (0 : Int32)))).1) ?_
    show Steps p.tables e below (T104.setTop (mkF m 27 #[.val (.int p1), .val (.ref bw101), .unset, .unset] [])) _
    refine st105 _ ?_
    show Steps p.tables e below (T105.setTop (mkF m 29 #[.val (.int p1), .val (.ref bw101), .unset, .unset] [(.ref a105)])) _
    refine XS.aloadN X105.here hx rfl (hb hby at_29) rfl rfl ?_
    show Steps p.tables e below (T105.setTop (mkF m 30 #[.val (.int p1), .val (.ref bw101), .unset, .unset] [(.ref bw101), (.ref a105)])) _
    refine XS.iconst X105.here hx rfl (hb hby at_30) ?_
    show Steps p.tables e below (T105.setTop (mkF m 31 #[.val (.int p1), .val (.ref bw101), .unset, .unset] [(.int (1 : Int32)), (.ref bw101), (.ref a105)])) _
    refine X105.aaload hx (j := (1 : Int32)) (v := (.ref s1)) (by rw [e105]; exact Ar_bw101_36.1) (State.isArrayOf_alike hZ105.alike Ar_bw101_36.2.1) rfl Ar_bw101_36.2.2 hinbw101_36 hatbw101_36 (g := (mkF m 31 #[.val (.int p1), .val (.ref bw101), .unset, .unset] [(.int (1 : Int32)), (.ref bw101), (.ref a105)])) rfl rfl (hb hby at_31) _ ?_
    show Steps p.tables e below (T105.setTop (mkF m 32 #[.val (.int p1), .val (.ref bw101), .unset, .unset] [(.ref s1), (.ref a105)])) _
    refine st107.trans ?_
    show Steps p.tables e below (T107.setTop (mkF m 35 #[.val (.int p1), .val (.ref bw101), .unset, .unset] [(.int (1 : Int32))])) _
    refine XS.ifNo X107.here hx rfl (hb hby at_35) rfl ((if0 _ _).trans (feq (by decide : ¬ ((1 : Int32) = (0 : Int32)))).1) ?_
    show Steps p.tables e below (T107.setTop (mkF m 38 #[.val (.int p1), .val (.ref bw101), .unset, .unset] [])) _
    refine st108 _ ?_
    show Steps p.tables e below (T108.setTop (mkF m 40 #[.val (.int p1), .val (.ref bw101), .unset, .unset] [(.ref a108)])) _
    refine XS.aloadN X108.here hx rfl (hb hby at_40) rfl rfl ?_
    show Steps p.tables e below (T108.setTop (mkF m 41 #[.val (.int p1), .val (.ref bw101), .unset, .unset] [(.ref bw101), (.ref a108)])) _
    refine XS.iconst X108.here hx rfl (hb hby at_41) ?_
    show Steps p.tables e below (T108.setTop (mkF m 42 #[.val (.int p1), .val (.ref bw101), .unset, .unset] [(.int (2 : Int32)), (.ref bw101), (.ref a108)])) _
    refine X108.aaload hx (j := (2 : Int32)) (v := (.ref s2)) (by rw [e108]; exact Ar_bw101_48.1) (State.isArrayOf_alike hZ108.alike Ar_bw101_48.2.1) rfl Ar_bw101_48.2.2 hinbw101_48 hatbw101_48 (g := (mkF m 42 #[.val (.int p1), .val (.ref bw101), .unset, .unset] [(.int (2 : Int32)), (.ref bw101), (.ref a108)])) rfl rfl (hb hby at_42) _ ?_
    show Steps p.tables e below (T108.setTop (mkF m 43 #[.val (.int p1), .val (.ref bw101), .unset, .unset] [(.ref s2), (.ref a108)])) _
    refine st110.trans ?_
    show Steps p.tables e below (T110.setTop (mkF m 46 #[.val (.int p1), .val (.ref bw101), .unset, .unset] [(.int (1 : Int32))])) _
    refine XS.ifYes X110.here hx rfl (pc0 := 46) (pc' := 51) rfl (hb hby at_46) rfl ((if0 _ _).trans (feq (by decide : ¬ ((1 : Int32) = (0 : Int32)))).2) (by decide) (by decide) ?_
    show Steps p.tables e below (T110.setTop (mkF m 51 #[.val (.int p1), .val (.ref bw101), .unset, .unset] [])) _
    refine st111 _ ?_
    show Steps p.tables e below (T111.setTop (mkF m 54 #[.val (.int p1), .val (.ref bw101), .unset, .unset] [(.ref w0)])) _
    refine st112 _ ?_
    show Steps p.tables e below (T112.setTop (mkF m 57 #[.val (.int p1), .val (.ref bw101), .unset, .unset] [(.ref s0)])) _
    refine XS.aloadN X112.here hx rfl (hb hby at_57) rfl rfl ?_
    show Steps p.tables e below (T112.setTop (mkF m 58 #[.val (.int p1), .val (.ref bw101), .unset, .unset] [(.ref bw101), (.ref s0)])) _
    refine XS.iconst X112.here hx rfl (hb hby at_58) ?_
    show Steps p.tables e below (T112.setTop (mkF m 59 #[.val (.int p1), .val (.ref bw101), .unset, .unset] [(.int (0 : Int32)), (.ref bw101), (.ref s0)])) _
    refine X112.aaload hx (j := (0 : Int32)) (v := (.ref s0)) (by rw [e112]; exact Ar_bw101_62.1) (State.isArrayOf_alike hZ108.alike Ar_bw101_62.2.1) rfl Ar_bw101_62.2.2 hinbw101_62 hatbw101_62 (g := (mkF m 59 #[.val (.int p1), .val (.ref bw101), .unset, .unset] [(.int (0 : Int32)), (.ref bw101), (.ref s0)])) rfl rfl (hb hby at_59) _ ?_
    show Steps p.tables e below (T112.setTop (mkF m 60 #[.val (.int p1), .val (.ref bw101), .unset, .unset] [(.ref s0), (.ref s0)])) _
    refine st113.trans ?_
    show Steps p.tables e below (T113.setTop (mkF m 63 #[.val (.int p1), .val (.ref bw101), .unset, .unset] [(.int (1 : Int32))])) _
    refine XS.ifNo X113.here hx rfl (hb hby at_63) rfl ((if0 _ _).trans (feq (by decide : ¬ ((1 : Int32) = (0 : Int32)))).1) ?_
    show Steps p.tables e below (T113.setTop (mkF m 66 #[.val (.int p1), .val (.ref bw101), .unset, .unset] [])) _
    refine st114 _ ?_
    show Steps p.tables e below (T114.setTop (mkF m 69 #[.val (.int p1), .val (.ref bw101), .unset, .unset] [(.ref w1)])) _
    refine st115 _ ?_
    show Steps p.tables e below (T115.setTop (mkF m 72 #[.val (.int p1), .val (.ref bw101), .unset, .unset] [(.ref s1)])) _
    refine XS.aloadN X115.here hx rfl (hb hby at_72) rfl rfl ?_
    show Steps p.tables e below (T115.setTop (mkF m 73 #[.val (.int p1), .val (.ref bw101), .unset, .unset] [(.ref bw101), (.ref s1)])) _
    refine XS.iconst X115.here hx rfl (hb hby at_73) ?_
    show Steps p.tables e below (T115.setTop (mkF m 74 #[.val (.int p1), .val (.ref bw101), .unset, .unset] [(.int (1 : Int32)), (.ref bw101), (.ref s1)])) _
    refine X115.aaload hx (j := (1 : Int32)) (v := (.ref s1)) (by rw [e115]; exact Ar_bw101_76.1) (State.isArrayOf_alike hZ108.alike Ar_bw101_76.2.1) rfl Ar_bw101_76.2.2 hinbw101_76 hatbw101_76 (g := (mkF m 74 #[.val (.int p1), .val (.ref bw101), .unset, .unset] [(.int (1 : Int32)), (.ref bw101), (.ref s1)])) rfl rfl (hb hby at_74) _ ?_
    show Steps p.tables e below (T115.setTop (mkF m 75 #[.val (.int p1), .val (.ref bw101), .unset, .unset] [(.ref s1), (.ref s1)])) _
    refine st116.trans ?_
    show Steps p.tables e below (T116.setTop (mkF m 78 #[.val (.int p1), .val (.ref bw101), .unset, .unset] [(.int (1 : Int32))])) _
    refine XS.ifNo X116.here hx rfl (hb hby at_78) rfl ((if0 _ _).trans (feq (by decide : ¬ ((1 : Int32) = (0 : Int32)))).1) ?_
    show Steps p.tables e below (T116.setTop (mkF m 81 #[.val (.int p1), .val (.ref bw101), .unset, .unset] [])) _
    refine st117 _ ?_
    show Steps p.tables e below (T117.setTop (mkF m 84 #[.val (.int p1), .val (.ref bw101), .unset, .unset] [(.ref w2)])) _
    refine st118 _ ?_
    show Steps p.tables e below (T118.setTop (mkF m 87 #[.val (.int p1), .val (.ref bw101), .unset, .unset] [(.ref s2)])) _
    refine XS.aloadN X118.here hx rfl (hb hby at_87) rfl rfl ?_
    show Steps p.tables e below (T118.setTop (mkF m 88 #[.val (.int p1), .val (.ref bw101), .unset, .unset] [(.ref bw101), (.ref s2)])) _
    refine XS.iconst X118.here hx rfl (hb hby at_88) ?_
    show Steps p.tables e below (T118.setTop (mkF m 89 #[.val (.int p1), .val (.ref bw101), .unset, .unset] [(.int (2 : Int32)), (.ref bw101), (.ref s2)])) _
    refine X118.aaload hx (j := (2 : Int32)) (v := (.ref s2)) (by rw [e118]; exact Ar_bw101_90.1) (State.isArrayOf_alike hZ108.alike Ar_bw101_90.2.1) rfl Ar_bw101_90.2.2 hinbw101_90 hatbw101_90 (g := (mkF m 89 #[.val (.int p1), .val (.ref bw101), .unset, .unset] [(.int (2 : Int32)), (.ref bw101), (.ref s2)])) rfl rfl (hb hby at_89) _ ?_
    show Steps p.tables e below (T118.setTop (mkF m 90 #[.val (.int p1), .val (.ref bw101), .unset, .unset] [(.ref s2), (.ref s2)])) _
    refine st119.trans ?_
    show Steps p.tables e below (T119.setTop (mkF m 93 #[.val (.int p1), .val (.ref bw101), .unset, .unset] [(.int (1 : Int32))])) _
    refine XS.ifYes X119.here hx rfl (pc0 := 93) (pc' := 98) rfl (hb hby at_93) rfl ((if0 _ _).trans (feq (by decide : ¬ ((1 : Int32) = (0 : Int32)))).2) (by decide) (by decide) ?_
    show Steps p.tables e below (T119.setTop (mkF m 98 #[.val (.int p1), .val (.ref bw101), .unset, .unset] [])) _
    refine XS.iloadN X119.here hx rfl (hb hby at_98) rfl ?_
    show Steps p.tables e below (T119.setTop (mkF m 99 #[.val (.int p1), .val (.ref bw101), .unset, .unset] [(.int p1)])) _
    refine X119.ldcInt hx hown108 (mvT hZ108 (wi hw 54 rfl)) (g := (mkF m 99 #[.val (.int p1), .val (.ref bw101), .unset, .unset] [(.int p1)])) rfl (hb hby at_99) _ ?_
    show Steps p.tables e below (T119.setTop (mkF m 101 #[.val (.int p1), .val (.ref bw101), .unset, .unset] [(.int (2147483647 : Int32)), (.int p1)])) _
    refine XS.iand X119.here hx rfl (hb hby at_101) rfl ?_
    show Steps p.tables e below (T119.setTop (mkF m 102 #[.val (.int p1), .val (.ref bw101), .unset, .unset] [(.int (p1 &&& (2147483647 : Int32)))])) _
    refine XS.iconst X119.here hx rfl (hb hby at_102) ?_
    show Steps p.tables e below (T119.setTop (mkF m 103 #[.val (.int p1), .val (.ref bw101), .unset, .unset] [(.int (3 : Int32)), (.int (p1 &&& (2147483647 : Int32)))])) _
    refine XS.irem X119.here hx rfl (hb hby at_103) rfl (by decide) ?_
    show Steps p.tables e below (T119.setTop (mkF m 104 #[.val (.int p1), .val (.ref bw101), .unset, .unset] [(.int (irm (p1 &&& (2147483647 : Int32)) (3 : Int32)))])) _
    rw [kk]
    show Steps p.tables e below (T119.setTop (mkF m 104 #[.val (.int p1), .val (.ref bw101), .unset, .unset] [(.int (2 : Int32))])) _
    refine XS.istoreN X119.here hx rfl (hb hby at_104) rfl (l' := #[.val (.int p1), .val (.ref bw101), .val (.int (2 : Int32)), .unset]) rfl ?_
    show Steps p.tables e below (T119.setTop (mkF m 105 #[.val (.int p1), .val (.ref bw101), .val (.int (2 : Int32)), .unset] [])) _
    refine XS.iloadN X119.here hx rfl (hb hby at_105) rfl ?_
    show Steps p.tables e below (T119.setTop (mkF m 106 #[.val (.int p1), .val (.ref bw101), .val (.int (2 : Int32)), .unset] [(.int (2 : Int32))])) _
    refine XS.ifYes X119.here hx rfl (pc0 := 106) (pc' := 116) rfl (hb hby at_106) rfl ((if0 _ _).trans (feq (by decide : ¬ ((2 : Int32) = (0 : Int32)))).2) (by decide) (by decide) ?_
    show Steps p.tables e below (T119.setTop (mkF m 116 #[.val (.int p1), .val (.ref bw101), .val (.int (2 : Int32)), .unset] [])) _
    refine XS.iloadN X119.here hx rfl (hb hby at_116) rfl ?_
    show Steps p.tables e below (T119.setTop (mkF m 117 #[.val (.int p1), .val (.ref bw101), .val (.int (2 : Int32)), .unset] [(.int (2 : Int32))])) _
    refine XS.iconst X119.here hx rfl (hb hby at_117) ?_
    show Steps p.tables e below (T119.setTop (mkF m 118 #[.val (.int p1), .val (.ref bw101), .val (.int (2 : Int32)), .unset] [(.int (1 : Int32)), (.int (2 : Int32))])) _
    refine XS.icmpYes X119.here hx rfl (pc0 := 118) (pc' := 128) rfl (hb hby at_118) rfl (feq (by decide : ¬ ((2 : Int32) = (1 : Int32)))).2 (by decide) (by decide) ?_
    show Steps p.tables e below (T119.setTop (mkF m 128 #[.val (.int p1), .val (.ref bw101), .val (.int (2 : Int32)), .unset] [])) _
    refine st120 _ ?_
    show Steps p.tables e below (T120.setTop (mkF m 131 #[.val (.int p1), .val (.ref bw101), .val (.int (2 : Int32)), .unset] [(.ref w2)])) _
    refine XS.astoreN X120.here hx rfl (hb hby at_131) rfl rfl (l' := #[.val (.int p1), .val (.ref bw101), .val (.int (2 : Int32)), .val (.ref w2)]) rfl ?_
    show Steps p.tables e below (T120.setTop (mkF m 132 #[.val (.int p1), .val (.ref bw101), .val (.int (2 : Int32)), .val (.ref w2)] [])) _
    refine XS.aloadN X120.here hx rfl (hb hby at_132) rfl rfl ?_
    show Steps p.tables e below (T120.setTop (mkF m 133 #[.val (.int p1), .val (.ref bw101), .val (.int (2 : Int32)), .val (.ref w2)] [(.ref bw101)])) _
    refine XS.iloadN X120.here hx rfl (hb hby at_133) rfl ?_
    show Steps p.tables e below (T120.setTop (mkF m 134 #[.val (.int p1), .val (.ref bw101), .val (.int (2 : Int32)), .val (.ref w2)] [(.int (2 : Int32)), (.ref bw101)])) _
    refine X120.aaload hx (j := (2 : Int32)) (v := (.ref s2)) (by rw [e120]; exact Ar_bw101_128.1) (State.isArrayOf_alike hZ108.alike Ar_bw101_128.2.1) rfl Ar_bw101_128.2.2 hinbw101_128 hatbw101_128 (g := (mkF m 134 #[.val (.int p1), .val (.ref bw101), .val (.int (2 : Int32)), .val (.ref w2)] [(.int (2 : Int32)), (.ref bw101)])) rfl rfl (hb hby at_134) _ ?_
    show Steps p.tables e below (T120.setTop (mkF m 135 #[.val (.int p1), .val (.ref bw101), .val (.int (2 : Int32)), .val (.ref w2)] [(.ref s2)])) _
    refine st121 _ ?_
    show Steps p.tables e below (T121.setTop (mkF m 138 #[.val (.int p1), .val (.ref bw101), .val (.int (2 : Int32)), .val (.ref w2)] [(.ref w2)])) _
    refine XS.aloadN X121.here hx rfl (hb hby at_138) rfl rfl ?_
    show Steps p.tables e below (T121.setTop (mkF m 139 #[.val (.int p1), .val (.ref bw101), .val (.int (2 : Int32)), .val (.ref w2)] [(.ref w2), (.ref w2)])) _
    refine Jvm.RoadKit.acmp (g := (mkF m 139 #[.val (.int p1), .val (.ref bw101), .val (.int (2 : Int32)), .val (.ref w2)] [(.ref w2), (.ref w2)])) X121 hx rfl rfl rfl (pc0 := 139) (pc' := 142) (same := true) rfl (hb hby at_139) rfl (decide_eq_true rfl) (by decide) (by decide) ?_
    show Steps p.tables e below (T121.setTop (mkF m 142 #[.val (.int p1), .val (.ref bw101), .val (.int (2 : Int32)), .val (.ref w2)] [])) _
    refine XS.iconst X121.here hx rfl (hb hby at_142) ?_
    show Steps p.tables e below (T121.setTop (mkF m 143 #[.val (.int p1), .val (.ref bw101), .val (.int (2 : Int32)), .val (.ref w2)] [(.int (1 : Int32))])) _
    refine XS.goto X121.here hx rfl (pc0 := 143) (pc' := 147) rfl (hb hby at_143) (by decide) (by decide) ?_
    show Steps p.tables e below (T121.setTop (mkF m 147 #[.val (.int p1), .val (.ref bw101), .val (.int (2 : Int32)), .val (.ref w2)] [(.int (1 : Int32))])) _
    exact retN X121 hx (t := .boolean) Bd.returns (by simp) (hb hby at_147) hr
  · show Q0 h0 n0 _ T121.heap _
    rw [e121]
    exact ⟨rfl, N121⟩
theorem own_mod3 (x : Int32) (h0 : ¬ (irm (x &&& (2147483647 : Int32)) (3 : Int32)) = 0) (h1 : ¬ (irm (x &&& (2147483647 : Int32)) (3 : Int32)) = 1) : (irm (x &&& (2147483647 : Int32)) (3 : Int32)) = 2 := by
  have a := (c_and x 2147483647 (by decide)).1
  have b := (c_iremV (x &&& 2147483647) 3).1 a (by decide)
  have e0 : (0 : Int32).toInt = 0 := rfl
  have e1 : (1 : Int32).toInt = 1 := rfl
  have e2 : (2 : Int32).toInt = 2 := rfl
  have e3 : (3 : Int32).toInt = 3 := rfl
  unfold irm at h0 h1 ⊢
  rw [irem_eq_mod] at h0 h1 ⊢
  rw [← Int32.toInt_inj] at h0 h1 ⊢
  omega
set_option maxRecDepth 65536 in
set_option maxHeartbeats 40000000 in
theorem comes_1 {Post : Tables → Env → Array Value → State → Outcome → State → Prop} (hpost : ∀ tb e args s v u, (limb_1_1.after args s (.returned v) u = true ∧ limb_1_2.after args s (.returned v) u = true ∧ True) → ReturnedEndW s (.returned v) u (Jvm.fieldLocs frame_1_writes args s ++ Jvm.arrayLocs frame_1_arrays args s ++ Jvm.staticLocs frame_1_statics s) 24 3200 → Post tb e args s (.returned v) u) :
    ArmFor flags0 classFile x code maxLocals ret World_1 tables_1 room_1 Calls_1 rest_1 Pre_1 Post := by
  intro l hfl _ _ p e ha hc hk s m args below hf hA hF happ hP
  obtain ⟨hcalls, hrest, hpre⟩ := hP
  obtain ⟨-, -, -, hnamed, -, -, -, hat⟩ := (Spec.applies_iff hf).mp happ
  obtain ⟨hg, hn⟩ := and_e (Cond.before_iff.mp (show (Jvm.Cond.and given_1 narrow_1).before args s = true from hpre))
  obtain ⟨hcnt, hi0⟩ := and_e hg
  obtain ⟨w0, rfl⟩ : ∃ w0 : Value, args = #[w0] := by
    have hs : args.size = 1 := by simpa [Cond.value, given_1] using hcnt
    obtain ⟨L⟩ := args
    match L, hs with
    | [w0], _ => exact ⟨w0, rfl⟩
  have hw := fun d (hd : d ∈ tables_1) => atoms_spec (ws := Jvm.Cond.code x code maxLocals ret :: tables_1) hat d (List.mem_cons_of_mem _ hd)
  have hfit : Fit s := fun {y c} hc i hi => by
    obtain ⟨ha, rfl⟩ := Array.getElem?_eq_some_iff.mp hc
    have q := List.all_eq_true.mp ((Array.all_eq_true_iff_forall_mem.mp hF) _ (Array.getElem_mem ha)) i (List.mem_range.mpr hi)
    simpa [Array.getElem?_eq_getElem hi] using q
  obtain ⟨i0, ei0⟩ := is_v hi0
  obtain rfl : w0 = (.int i0) := Option.some.inj ei0
  obtain ⟨hsets, hown0⟩ := atoms_of _ (rest_1_c_eq ▸ (show rest_1_c.before _ s = true from hrest))
  obtain ⟨i_CS, ev_CS⟩ := is_v (Cond.before_iff.mp (hsets _ (List.mem_of_getElem? (i := 1) rfl)))
  have S_CS : Sta s s.heap "java/lang/String" "COMPACT_STRINGS" "Z" (.int i_CS) := Sta.start ev_CS (Or.inl (hsets _ (List.mem_of_getElem? (i := 0) rfl)))
  have hCS : ¬ (i_CS = (0 : Int32)) := gotF (Cond.eq_ints ev_CS (Term.int_eval (0))) (not_v (Cond.before_iff.mp (hsets _ (List.mem_of_getElem? (i := 2) rfl))))
  obtain ⟨l1, r1⟩ := and_e hn
  obtain ⟨l2, r2⟩ := and_e r1
  obtain ⟨l3, r3⟩ := and_e r2
  obtain ⟨l4, r4⟩ := and_e r3
  obtain ⟨l5, r5⟩ := and_e r4
  obtain ⟨l6, r6⟩ := and_e r5
  obtain ⟨l7, r7⟩ := and_e r6
  obtain ⟨l8, r8⟩ := and_e r7
  obtain ⟨l9, r9⟩ := and_e r8
  obtain ⟨l10, r10⟩ := and_e r9
  obtain ⟨l11, r11⟩ := and_e r10
  obtain ⟨l12, r12⟩ := and_e r11
  obtain ⟨l13, r13⟩ := and_e r12
  obtain ⟨l14, r14⟩ := and_e r13
  obtain ⟨l15, r15⟩ := and_e r14
  obtain ⟨l16, r16⟩ := and_e r15
  obtain ⟨l17, r17⟩ := and_e r16
  obtain ⟨l18, r18⟩ := and_e r17
  obtain ⟨l19, r19⟩ := and_e r18
  obtain ⟨l20, r20⟩ := and_e r19
  obtain ⟨l21, r21⟩ := and_e r20
  obtain ⟨l22, r22⟩ := and_e r21
  obtain ⟨l23, r23⟩ := and_e r22
  obtain ⟨l24, r24⟩ := and_e r23
  obtain ⟨l25, r25⟩ := and_e r24
  obtain ⟨l26, r26⟩ := and_e r25
  obtain ⟨l27, r27⟩ := and_e r26
  obtain ⟨l28, r28⟩ := and_e r27
  obtain ⟨l29, r29⟩ := and_e r28
  obtain ⟨l30, r30⟩ := and_e r29
  obtain ⟨l31, r31⟩ := and_e r30
  obtain ⟨l32, r32⟩ := and_e r31
  obtain ⟨l33, r33⟩ := and_e r32
  obtain ⟨l34, r34⟩ := and_e r33
  obtain ⟨l35, r35⟩ := and_e r34
  obtain ⟨l36, r36⟩ := and_e r35
  obtain ⟨l37, r37⟩ := and_e r36
  obtain ⟨l38, r38⟩ := and_e r37
  obtain ⟨l39, r39⟩ := and_e r38
  obtain ⟨l40, r40⟩ := and_e r39
  obtain ⟨l41, r41⟩ := and_e r40
  obtain ⟨l42, r42⟩ := and_e r41
  obtain ⟨l43, r43⟩ := and_e r42
  obtain ⟨l44, r44⟩ := and_e r43
  obtain ⟨l45, r45⟩ := and_e r44
  obtain ⟨l46, r46⟩ := and_e r45
  obtain ⟨w_VALUES, ev_VALUES⟩ := arr_v l1
  have S_VALUES := Sta.start ev_VALUES (Or.inr ⟨(wi hw 2 rfl), (wi hw 8 rfl)⟩)
  obtain ⟨cl_VALUES, A_VALUES⟩ := Arr.start ev_VALUES l1
  have E_VALUES := Exa.start ev_VALUES l2
  obtain ⟨lz_VALUES, le_VALUES⟩ := own_len ev_VALUES A_VALUES l3
  obtain ⟨w_ARRAY, ev_ARRAY⟩ := exa_v l4
  have S_ARRAY := Sta.start ev_ARRAY (Or.inr ⟨(wi hw 2 rfl), (wi hw 16 rfl)⟩)
  have E_ARRAY := Exa.start ev_ARRAY l4
  have el_VALUES_0 := own_elR ev_VALUES A_VALUES ev_ARRAY l5
  obtain ⟨w_LINKED, ev_LINKED⟩ := exa_v l6
  have S_LINKED := Sta.start ev_LINKED (Or.inr ⟨(wi hw 2 rfl), (wi hw 17 rfl)⟩)
  have E_LINKED := Exa.start ev_LINKED l6
  have el_VALUES_1 := own_elR ev_VALUES A_VALUES ev_LINKED l7
  obtain ⟨w_LINKED_DEQUE, ev_LINKED_DEQUE⟩ := exa_v l8
  have S_LINKED_DEQUE := Sta.start ev_LINKED_DEQUE (Or.inr ⟨(wi hw 2 rfl), (wi hw 18 rfl)⟩)
  have E_LINKED_DEQUE := Exa.start ev_LINKED_DEQUE l8
  have el_VALUES_2 := own_elR ev_VALUES A_VALUES ev_LINKED_DEQUE l9
  obtain ⟨w_ARRAY_mWord, ev_ARRAY_mWord⟩ := exa_v l10
  have P_ARRAY_mWord := Fld.start ((fld_at ev_ARRAY).symm.trans ev_ARRAY_mWord)
  have E_ARRAY_mWord := Exa.start ev_ARRAY_mWord l10
  obtain ⟨w_LINKED_mWord, ev_LINKED_mWord⟩ := exa_v l11
  have P_LINKED_mWord := Fld.start ((fld_at ev_LINKED).symm.trans ev_LINKED_mWord)
  have E_LINKED_mWord := Exa.start ev_LINKED_mWord l11
  obtain ⟨w_LINKED_DEQUE_mWord, ev_LINKED_DEQUE_mWord⟩ := exa_v l12
  have P_LINKED_DEQUE_mWord := Fld.start ((fld_at ev_LINKED_DEQUE).symm.trans ev_LINKED_DEQUE_mWord)
  have E_LINKED_DEQUE_mWord := Exa.start ev_LINKED_DEQUE_mWord l12
  have F_coder_ARRAY_mWord := own_fldI ev_ARRAY_mWord l13
  obtain ⟨w_ARRAY_mWord_value, ev_ARRAY_mWord_value⟩ := arr_v l14
  have P_ARRAY_mWord_value := Fld.start ((fld_at ev_ARRAY_mWord).symm.trans ev_ARRAY_mWord_value)
  obtain ⟨cl_ARRAY_mWord_value, A_ARRAY_mWord_value⟩ := Arr.start ev_ARRAY_mWord_value l14
  obtain ⟨lz_ARRAY_mWord_value, le_ARRAY_mWord_value⟩ := own_len ev_ARRAY_mWord_value A_ARRAY_mWord_value l15
  have F_coder_LINKED_mWord := own_fldI ev_LINKED_mWord l16
  obtain ⟨w_LINKED_mWord_value, ev_LINKED_mWord_value⟩ := arr_v l17
  have P_LINKED_mWord_value := Fld.start ((fld_at ev_LINKED_mWord).symm.trans ev_LINKED_mWord_value)
  obtain ⟨cl_LINKED_mWord_value, A_LINKED_mWord_value⟩ := Arr.start ev_LINKED_mWord_value l17
  obtain ⟨lz_LINKED_mWord_value, le_LINKED_mWord_value⟩ := own_len ev_LINKED_mWord_value A_LINKED_mWord_value l18
  have F_coder_LINKED_DEQUE_mWord := own_fldI ev_LINKED_DEQUE_mWord l19
  obtain ⟨w_LINKED_DEQUE_mWord_value, ev_LINKED_DEQUE_mWord_value⟩ := arr_v l20
  have P_LINKED_DEQUE_mWord_value := Fld.start ((fld_at ev_LINKED_DEQUE_mWord).symm.trans ev_LINKED_DEQUE_mWord_value)
  obtain ⟨cl_LINKED_DEQUE_mWord_value, A_LINKED_DEQUE_mWord_value⟩ := Arr.start ev_LINKED_DEQUE_mWord_value l20
  obtain ⟨lz_LINKED_DEQUE_mWord_value, le_LINKED_DEQUE_mWord_value⟩ := own_len ev_LINKED_DEQUE_mWord_value A_LINKED_DEQUE_mWord_value l21
  have el_ARRAY_mWord_value_0 := own_elI ev_ARRAY_mWord_value A_ARRAY_mWord_value l25
  have el_ARRAY_mWord_value_1 := own_elI ev_ARRAY_mWord_value A_ARRAY_mWord_value l26
  have el_ARRAY_mWord_value_2 := own_elI ev_ARRAY_mWord_value A_ARRAY_mWord_value l27
  have el_ARRAY_mWord_value_3 := own_elI ev_ARRAY_mWord_value A_ARRAY_mWord_value l28
  have el_ARRAY_mWord_value_4 := own_elI ev_ARRAY_mWord_value A_ARRAY_mWord_value l29
  have el_LINKED_mWord_value_0 := own_elI ev_LINKED_mWord_value A_LINKED_mWord_value l30
  have el_LINKED_mWord_value_1 := own_elI ev_LINKED_mWord_value A_LINKED_mWord_value l31
  have el_LINKED_mWord_value_2 := own_elI ev_LINKED_mWord_value A_LINKED_mWord_value l32
  have el_LINKED_mWord_value_3 := own_elI ev_LINKED_mWord_value A_LINKED_mWord_value l33
  have el_LINKED_mWord_value_4 := own_elI ev_LINKED_mWord_value A_LINKED_mWord_value l34
  have el_LINKED_mWord_value_5 := own_elI ev_LINKED_mWord_value A_LINKED_mWord_value l35
  have el_LINKED_DEQUE_mWord_value_0 := own_elI ev_LINKED_DEQUE_mWord_value A_LINKED_DEQUE_mWord_value l36
  have el_LINKED_DEQUE_mWord_value_1 := own_elI ev_LINKED_DEQUE_mWord_value A_LINKED_DEQUE_mWord_value l37
  have el_LINKED_DEQUE_mWord_value_2 := own_elI ev_LINKED_DEQUE_mWord_value A_LINKED_DEQUE_mWord_value l38
  have el_LINKED_DEQUE_mWord_value_3 := own_elI ev_LINKED_DEQUE_mWord_value A_LINKED_DEQUE_mWord_value l39
  have el_LINKED_DEQUE_mWord_value_4 := own_elI ev_LINKED_DEQUE_mWord_value A_LINKED_DEQUE_mWord_value l40
  have el_LINKED_DEQUE_mWord_value_5 := own_elI ev_LINKED_DEQUE_mWord_value A_LINKED_DEQUE_mWord_value l41
  have el_LINKED_DEQUE_mWord_value_6 := own_elI ev_LINKED_DEQUE_mWord_value A_LINKED_DEQUE_mWord_value l42
  have el_LINKED_DEQUE_mWord_value_7 := own_elI ev_LINKED_DEQUE_mWord_value A_LINKED_DEQUE_mWord_value l43
  have el_LINKED_DEQUE_mWord_value_8 := own_elI ev_LINKED_DEQUE_mWord_value A_LINKED_DEQUE_mWord_value l44
  have el_LINKED_DEQUE_mWord_value_9 := own_elI ev_LINKED_DEQUE_mWord_value A_LINKED_DEQUE_mWord_value l45
  have el_LINKED_DEQUE_mWord_value_10 := own_elI ev_LINKED_DEQUE_mWord_value A_LINKED_DEQUE_mWord_value l46
  have el_LINKED_DEQUE_mWord_value_11 := own_elI ev_LINKED_DEQUE_mWord_value A_LINKED_DEQUE_mWord_value r46
  have V_VALUES : Arv s s.heap w_VALUES cl_VALUES.cls (.object "dev/tryst/tool/Workload$QueueKind") (3 : Int32) [(.ref w_ARRAY), (.ref w_LINKED), (.ref w_LINKED_DEQUE)] .null := Arv.start hfit A_VALUES lz_VALUES le_VALUES (by decide) rfl ⟨el_VALUES_0, el_VALUES_1, el_VALUES_2, trivial⟩
  have V_ARRAY_mWord_value : Arv s s.heap w_ARRAY_mWord_value cl_ARRAY_mWord_value.cls .byte (5 : Int32) [(.int (97 : Int32)), (.int (114 : Int32)), (.int (114 : Int32)), (.int (97 : Int32)), (.int (121 : Int32))] (.int (0 : Int32)) := Arv.start hfit A_ARRAY_mWord_value lz_ARRAY_mWord_value le_ARRAY_mWord_value (by decide) rfl ⟨el_ARRAY_mWord_value_0, el_ARRAY_mWord_value_1, el_ARRAY_mWord_value_2, el_ARRAY_mWord_value_3, el_ARRAY_mWord_value_4, trivial⟩
  have V_LINKED_mWord_value : Arv s s.heap w_LINKED_mWord_value cl_LINKED_mWord_value.cls .byte (6 : Int32) [(.int (108 : Int32)), (.int (105 : Int32)), (.int (110 : Int32)), (.int (107 : Int32)), (.int (101 : Int32)), (.int (100 : Int32))] (.int (0 : Int32)) := Arv.start hfit A_LINKED_mWord_value lz_LINKED_mWord_value le_LINKED_mWord_value (by decide) rfl ⟨el_LINKED_mWord_value_0, el_LINKED_mWord_value_1, el_LINKED_mWord_value_2, el_LINKED_mWord_value_3, el_LINKED_mWord_value_4, el_LINKED_mWord_value_5, trivial⟩
  have V_LINKED_DEQUE_mWord_value : Arv s s.heap w_LINKED_DEQUE_mWord_value cl_LINKED_DEQUE_mWord_value.cls .byte (12 : Int32) [(.int (108 : Int32)), (.int (105 : Int32)), (.int (110 : Int32)), (.int (107 : Int32)), (.int (101 : Int32)), (.int (100 : Int32)), (.int (45 : Int32)), (.int (100 : Int32)), (.int (101 : Int32)), (.int (113 : Int32)), (.int (117 : Int32)), (.int (101 : Int32))] (.int (0 : Int32)) := Arv.start hfit A_LINKED_DEQUE_mWord_value lz_LINKED_DEQUE_mWord_value le_LINKED_DEQUE_mWord_value (by decide) rfl ⟨el_LINKED_DEQUE_mWord_value_0, el_LINKED_DEQUE_mWord_value_1, el_LINKED_DEQUE_mWord_value_2, el_LINKED_DEQUE_mWord_value_3, el_LINKED_DEQUE_mWord_value_4, el_LINKED_DEQUE_mWord_value_5, el_LINKED_DEQUE_mWord_value_6, el_LINKED_DEQUE_mWord_value_7, el_LINKED_DEQUE_mWord_value_8, el_LINKED_DEQUE_mWord_value_9, el_LINKED_DEQUE_mWord_value_10, el_LINKED_DEQUE_mWord_value_11, trivial⟩
  have T_ARRAY_mWord : Str s s.heap w_ARRAY_mWord ([(97 : Int32), (114 : Int32), (114 : Int32), (97 : Int32), (121 : Int32)] : List Int32) := ⟨_, _, _, _, E_ARRAY_mWord, P_ARRAY_mWord_value, F_coder_ARRAY_mWord, V_ARRAY_mWord_value, Or.inl ⟨rfl, rfl, rfl, by decide⟩, by decide, by decide⟩
  have T_LINKED_mWord : Str s s.heap w_LINKED_mWord ([(108 : Int32), (105 : Int32), (110 : Int32), (107 : Int32), (101 : Int32), (100 : Int32)] : List Int32) := ⟨_, _, _, _, E_LINKED_mWord, P_LINKED_mWord_value, F_coder_LINKED_mWord, V_LINKED_mWord_value, Or.inl ⟨rfl, rfl, rfl, by decide⟩, by decide, by decide⟩
  have T_LINKED_DEQUE_mWord : Str s s.heap w_LINKED_DEQUE_mWord ([(108 : Int32), (105 : Int32), (110 : Int32), (107 : Int32), (101 : Int32), (100 : Int32), (45 : Int32), (100 : Int32), (101 : Int32), (113 : Int32), (117 : Int32), (101 : Int32)] : List Int32) := ⟨_, _, _, _, E_LINKED_DEQUE_mWord, P_LINKED_DEQUE_mWord_value, F_coder_LINKED_DEQUE_mWord, V_LINKED_DEQUE_mWord_value, Or.inl ⟨rfl, rfl, rfl, by decide⟩, by decide, by decide⟩
  have hC : CHv s consts_1 s.vm s.heap := CHv.start (own_EW hw) (fun q hq => hcalls.1 q hq) (show Jvm.Lit.compactW.before _ s = true from hsets _ (List.mem_of_getElem? (i := 2) rfl)) (wi hw 30 rfl) (wi hw 29 rfl)
  have key : MetFree l x (head1 (Jvm.Cond.code x code maxLocals ret :: tables_1) room_1) (fun a U => a = #[(.int i0)] ∧ s.Warmed39 U.vm ∧ U.heap = s.heap ∧ CHv s consts_1 U.vm s.heap) (fun _ _ _ _ _ => True) (fun _ U o U' => ∃ v L, o = .returned v ∧ Q0 s.heap s.heap.size v U'.heap L ∧ CHr s consts_1 U.vm U.heap U'.vm U'.heap ∧ ReturnedEndW U o U' L room_1.cells room_1.slots) := by
    by_cases k0 : (irm (i0 &&& (2147483647 : Int32)) (3 : Int32)) = 0
    · exact rm0_0 l s _ hw tables_1 i0 i_CS cl_VALUES.cls w_VALUES w_ARRAY w_LINKED w_LINKED_DEQUE w_ARRAY_mWord w_LINKED_mWord w_LINKED_DEQUE_mWord s.heap s.heap.size (Old.start s) S_CS hCS S_VALUES V_VALUES E_VALUES P_ARRAY_mWord P_LINKED_mWord P_LINKED_DEQUE_mWord T_ARRAY_mWord T_LINKED_mWord T_LINKED_DEQUE_mWord S_ARRAY S_LINKED S_LINKED_DEQUE k0
    by_cases k1 : (irm (i0 &&& (2147483647 : Int32)) (3 : Int32)) = 1
    · exact rm0_1 l s _ hw tables_1 i0 i_CS cl_VALUES.cls w_VALUES w_ARRAY w_LINKED w_LINKED_DEQUE w_ARRAY_mWord w_LINKED_mWord w_LINKED_DEQUE_mWord s.heap s.heap.size (Old.start s) S_CS hCS S_VALUES V_VALUES E_VALUES P_ARRAY_mWord P_LINKED_mWord P_LINKED_DEQUE_mWord T_ARRAY_mWord T_LINKED_mWord T_LINKED_DEQUE_mWord S_ARRAY S_LINKED S_LINKED_DEQUE k1
    · exact rm0_2 l s _ hw tables_1 i0 i_CS cl_VALUES.cls w_VALUES w_ARRAY w_LINKED w_LINKED_DEQUE w_ARRAY_mWord w_LINKED_mWord w_LINKED_DEQUE_mWord s.heap s.heap.size (Old.start s) S_CS hCS S_VALUES V_VALUES E_VALUES P_ARRAY_mWord P_LINKED_mWord P_LINKED_DEQUE_mWord T_ARRAY_mWord T_LINKED_mWord T_LINKED_DEQUE_mWord S_ARRAY S_LINKED S_LINKED_DEQUE (own_mod3 i0 k0 k1)
  obtain ⟨n, o, h1, h2, h3, _, L, rfl, ⟨rfl, N⟩, -, hq⟩ := key p e ha hc hk s m _ below hf ((Spec.applies_iff_loose hf).mp happ).1 ⟨rfl, State.Warmed39.refl s, rfl, hC⟩ trivial
  refine ⟨n, _, h1, h2, h3, hpost _ _ _ _ _ _ ⟨Cond.after_iff.mpr rfl, Cond.after_iff.mpr (eq_i res_at (Term.int_eval (1)) rfl), trivial⟩ ⟨hq.1, hq.2.1, hq.2.2.1, (hq.2.2.2.sift fun y hy => Or.inr (N y hy)).mono (by decide) (by decide)⟩⟩
theorem main_1_1 : Claimed_1_1 := comes_1 fun _ _ _ _ _ _ h hF => ⟨h.1, hF⟩
theorem main_1_2 : Claimed_1_2 := comes_1 fun _ _ _ _ _ _ h hF => ⟨h.2.1, hF⟩
end Jvm.Pilot.@@N@@
namespace Jvm.Pilot.@@N@@
open Jvm Jvm.ClassFile Sem Op Lib Jvm.Free Jvm.Stand Jvm.Pilot.@@N@@.Jvm.D
/-! MADE BY PROGRAM (witnessworld.py) out of the Statement's table words and the real class files: 20 classes; the members and pool entries that the words name. The judged class is class 1, her method 1. -/
namespace start1
open Jvm.ClassFile
def u (s : String) : CpInfo := .utf8 (stringToUtf16 s)
/-- a pool by its gaps: so many unusable entries, then the entry; so many at the end -/
def gap : Nat → List CpInfo → List CpInfo
  | 0, r => r
  | n + 1, r => .unusable :: gap n r
def poolList (es : List (Nat × CpInfo)) (last : Nat) : List CpInfo := es.foldr (fun e r => gap e.1 (e.2 :: r)) (gap last [])
def pool (es : List (Nat × CpInfo)) (last : Nat) : Array CpInfo := ⟨poolList es last⟩
def fileOf (pool : Array CpInfo) (this : Nat) (attrs : Array Attribute := #[]) (ms : Array MethodInfo := #[]) (fl : Nat := 33) (sup : Nat := 0) (ifs : Array Nat := #[]) (fds : Array FieldInfo := #[]) : ClassFile where
  minorVersion := 0
  majorVersion := 65
  constantPool := pool
  accessFlags := fl
  thisClass := this
  superClass := sup
  interfaces := ifs
  fields := fds
  methods := ms
  attributes := attrs
def plain (name : String) (sup : Option ClassId) : Class where
  name := name
  kind := .ordinary
  loader := none
  accessFlags := 33
  super := sup
  interfaces := #[]
  cf := none
  fields := #[]
  methods := #[]
  instanceTypes := #[]
  staticTypes := #[]
  resolved := #[]
  callSites := []
  init := .initialized
  statics := none
  mirror := none

def pool0 : Array CpInfo := pool [(5, u "<init>"), (0, u "()V"), (1, .class_ 10), (1, u "java/lang/Object"), (85, u "clone"), (0, u "()Ljava/lang/Object;")] 26

def k0m0 : Method := { name := "<init>", desc := "()V", sig := { parameters := [], returnType := none }, accessFlags := 1, code := none }
def k0m1 : Method := { name := "clone", desc := "()Ljava/lang/Object;", sig := { parameters := [], returnType := some (.object "java/lang/Object") }, accessFlags := 260, code := none }
/-- java/lang/Object -/
def k0 : Class := { plain "java/lang/Object" none with
  accessFlags := 33
  interfaces := #[]
  cf := some (fileOf pool0 8 #[] #[{ accessFlags := 1, nameIndex := 5, descriptorIndex := 6, attributes := #[] }, { accessFlags := 260, nameIndex := 96, descriptorIndex := 97, attributes := #[] }] 33 0 #[] #[])
  fields := #[]
  methods := #[k0m0, k0m1]
  instanceTypes := #[]
  staticTypes := #[]
  resolved := Array.replicate 124 none
  statics := none }

def pool1 : Array CpInfo := pool [(2, .class_ 4), (1, u "java/lang/Object"), (0, u "<init>"), (0, u "()V"), (0, .methodref 8 9), (0, .class_ 10), (0, .nameAndType 11 12), (0, u "dev/tryst/tool/Workload$QueueKind"), (0, u "words"), (0, u "()[Ljava/lang/String;"), (0, .string 14), (0, u "array"), (0, .methodref 16 17), (0, .class_ 18), (0, .nameAndType 19 20), (0, u "java/lang/String"), (0, u "equals"), (0, u "(Ljava/lang/Object;)Z"), (0, .string 22), (0, u "linked"), (0, .string 24), (0, u "linked-deque"), (0, .fieldref 8 26), (0, .nameAndType 27 28), (0, u "ARRAY"), (0, u "Ldev/tryst/tool/Workload$QueueKind;"), (0, .fieldref 8 30), (0, .nameAndType 31 32), (0, u "mWord"), (0, u "Ljava/lang/String;"), (0, .fieldref 8 34), (0, .nameAndType 35 28), (0, u "LINKED"), (0, .fieldref 8 37), (0, .nameAndType 38 28), (0, u "LINKED_DEQUE"), (0, .integer 2147483647), (0, .methodref 8 41), (0, .nameAndType 42 43), (0, u "of"), (0, u "(Ljava/lang/String;)Ldev/tryst/tool/Workload$QueueKind;"), (0, .class_ 45), (0, u "dev/tryst/tool/QueueKindWordsPinLaw"), (2, u "law"), (0, u "(I)Z")] 9

def k1m0 : Method := { name := "<init>", desc := "()V", sig := { parameters := [], returnType := none }, accessFlags := 2, code := none }
def k1c1 : Code := { maxStack := 3, maxLocals := 4, code := code, exceptionTable := #[], attributes := #[] }
def k1m1 : Method := { name := "law", desc := "(I)Z", sig := { parameters := [.int], returnType := some .boolean }, accessFlags := 9, code := some k1c1 }
/-- dev/tryst/tool/QueueKindWordsPinLaw -/
def k1 : Class := { plain "dev/tryst/tool/QueueKindWordsPinLaw" (some 0) with
  accessFlags := 49
  interfaces := #[]
  cf := some (fileOf pool1 44 #[] #[{ accessFlags := 2, nameIndex := 5, descriptorIndex := 6, attributes := #[] }, { accessFlags := 9, nameIndex := 48, descriptorIndex := 49, attributes := #[] }] 49 2 #[] #[])
  fields := #[]
  methods := #[k1m0, k1m1]
  instanceTypes := #[]
  staticTypes := #[]
  resolved := Array.replicate 59 none
  statics := none }

def pool2 : Array CpInfo := pool [(1, .class_ 2), (0, u "java/lang/constant/Constable"), (0, .class_ 4), (0, u "java/lang/Object")] 6

/-- java/lang/constant/Constable -/
def k2 : Class := { plain "java/lang/constant/Constable" (some 0) with
  accessFlags := 1537
  interfaces := #[]
  cf := some (fileOf pool2 1 #[] #[] 1537 3 #[] #[])
  fields := #[]
  methods := #[]
  instanceTypes := #[]
  staticTypes := #[]
  resolved := Array.replicate 11 none
  statics := none }

def pool3 : Array CpInfo := pool [(1, .class_ 2), (0, u "java/lang/Comparable"), (0, .class_ 4), (0, u "java/lang/Object")] 7

/-- java/lang/Comparable -/
def k3 : Class := { plain "java/lang/Comparable" (some 0) with
  accessFlags := 1537
  interfaces := #[]
  cf := some (fileOf pool3 1 #[] #[] 1537 3 #[] #[])
  fields := #[]
  methods := #[]
  instanceTypes := #[]
  staticTypes := #[]
  resolved := Array.replicate 12 none
  statics := none }

def pool4 : Array CpInfo := pool [(1, .class_ 2), (0, u "java/io/Serializable"), (0, .class_ 4), (0, u "java/lang/Object")] 2

/-- java/io/Serializable -/
def k4 : Class := { plain "java/io/Serializable" (some 0) with
  accessFlags := 1537
  interfaces := #[]
  cf := some (fileOf pool4 1 #[] #[] 1537 3 #[] #[])
  fields := #[]
  methods := #[]
  instanceTypes := #[]
  staticTypes := #[]
  resolved := Array.replicate 7 none
  statics := none }

def pool5 : Array CpInfo := pool [(2, .class_ 4), (1, u "java/lang/Enum"), (0, u "name"), (0, u "Ljava/lang/String;"), (2, u "ordinal"), (0, u "I"), (1, .class_ 14), (1, u "java/lang/Object"), (4, u "hash"), (86, .class_ 108), (1, u "java/lang/Enum$EnumDesc"), (2, .class_ 112), (0, u "java/lang/constant/Constable"), (0, .class_ 114), (0, u "java/lang/Comparable"), (0, .class_ 116), (0, u "java/io/Serializable")] 87

/-- java/lang/Enum -/
def k5 : Class := { plain "java/lang/Enum" (some 0) with
  accessFlags := 1057
  interfaces := #[2, 3, 4]
  cf := some (fileOf pool5 2 #[.nestMembers #[106]] #[] 1057 12 #[111, 113, 115] #[{ accessFlags := 18, nameIndex := 5, descriptorIndex := 6, attributes := #[] }, { accessFlags := 18, nameIndex := 9, descriptorIndex := 10, attributes := #[] }, { accessFlags := 2, nameIndex := 19, descriptorIndex := 10, attributes := #[] }])
  fields := #[{ name := "name", type := (.object "java/lang/String"), accessFlags := 18, slot := 0, constantValue := 0 }, { name := "ordinal", type := .int, accessFlags := 18, slot := 1, constantValue := 0 }, { name := "hash", type := .int, accessFlags := 2, slot := 2, constantValue := 0 }]
  methods := #[]
  instanceTypes := #[(.object "java/lang/String"), .int, .int]
  staticTypes := #[]
  resolved := Array.replicate 204 none
  statics := none }

def pool6 : Array CpInfo := pool [(1, .class_ 2), (0, u "dev/tryst/tool/Workload$QueueKind"), (2, u "ARRAY"), (0, u "Ldev/tryst/tool/Workload$QueueKind;"), (2, u "LINKED"), (2, u "LINKED_DEQUE"), (0, .fieldref 1 14), (0, .nameAndType 15 16), (0, u "$VALUES"), (0, u "[Ldev/tryst/tool/Workload$QueueKind;"), (0, .methodref 18 19), (0, .class_ 16), (0, .nameAndType 20 21), (0, u "clone"), (0, u "()Ljava/lang/Object;"), (1, .class_ 25), (1, u "java/lang/Enum"), (6, .fieldref 1 33), (0, .nameAndType 34 35), (0, u "mWord"), (0, u "Ljava/lang/String;"), (2, u "mQueue"), (0, u "Ljava/util/function/Supplier;"), (0, .methodref 1 41), (0, .nameAndType 42 43), (0, u "values"), (0, u "()[Ldev/tryst/tool/Workload$QueueKind;"), (0, .class_ 45), (0, u "java/lang/String"), (0, .methodref 44 47), (0, .nameAndType 48 49), (0, u "equals"), (0, u "(Ljava/lang/Object;)Z"), (45, u "(Ljava/lang/String;)Ldev/tryst/tool/Workload$QueueKind;"), (2, u "words"), (0, u "()[Ljava/lang/String;"), (3, u "of"), (10, .class_ 115), (0, u "dev/tryst/tool/Workload")] 34

def k6c0 : Code := { maxStack := 1, maxLocals := 0, code := prog_40_method_1_code, exceptionTable := #[], attributes := #[] }
def k6m0 : Method := { name := "values", desc := "()[Ldev/tryst/tool/Workload$QueueKind;", sig := { parameters := [], returnType := some (.array (.object "dev/tryst/tool/Workload$QueueKind")) }, accessFlags := 9, code := some k6c0 }
def k6c1 : Code := { maxStack := 4, maxLocals := 3, code := prog_40_method_4_code, exceptionTable := #[], attributes := #[] }
def k6m1 : Method := { name := "words", desc := "()[Ljava/lang/String;", sig := { parameters := [], returnType := some (.array (.object "java/lang/String")) }, accessFlags := 8, code := some k6c1 }
def k6c2 : Code := { maxStack := 3, maxLocals := 5, code := prog_40_method_5_code, exceptionTable := #[], attributes := #[] }
def k6m2 : Method := { name := "of", desc := "(Ljava/lang/String;)Ldev/tryst/tool/Workload$QueueKind;", sig := { parameters := [(.object "java/lang/String")], returnType := some (.object "dev/tryst/tool/Workload$QueueKind") }, accessFlags := 8, code := some k6c2 }
/-- dev/tryst/tool/Workload$QueueKind -/
def k6 : Class := { plain "dev/tryst/tool/Workload$QueueKind" (some 5) with
  accessFlags := 16432
  interfaces := #[]
  cf := some (fileOf pool6 1 #[.nestHost 114] #[{ accessFlags := 9, nameIndex := 42, descriptorIndex := 43, attributes := #[] }, { accessFlags := 8, nameIndex := 98, descriptorIndex := 99, attributes := #[] }, { accessFlags := 8, nameIndex := 103, descriptorIndex := 95, attributes := #[] }] 16432 23 #[] #[{ accessFlags := 16409, nameIndex := 5, descriptorIndex := 6, attributes := #[] }, { accessFlags := 16409, nameIndex := 9, descriptorIndex := 6, attributes := #[] }, { accessFlags := 16409, nameIndex := 12, descriptorIndex := 6, attributes := #[] }, { accessFlags := 16, nameIndex := 34, descriptorIndex := 35, attributes := #[] }, { accessFlags := 18, nameIndex := 38, descriptorIndex := 39, attributes := #[] }, { accessFlags := 4122, nameIndex := 15, descriptorIndex := 16, attributes := #[] }])
  fields := #[{ name := "ARRAY", type := (.object "dev/tryst/tool/Workload$QueueKind"), accessFlags := 16409, slot := 0, constantValue := 0 }, { name := "LINKED", type := (.object "dev/tryst/tool/Workload$QueueKind"), accessFlags := 16409, slot := 1, constantValue := 0 }, { name := "LINKED_DEQUE", type := (.object "dev/tryst/tool/Workload$QueueKind"), accessFlags := 16409, slot := 2, constantValue := 0 }, { name := "mWord", type := (.object "java/lang/String"), accessFlags := 16, slot := 3, constantValue := 0 }, { name := "mQueue", type := (.object "java/util/function/Supplier"), accessFlags := 18, slot := 4, constantValue := 0 }, { name := "$VALUES", type := (.array (.object "dev/tryst/tool/Workload$QueueKind")), accessFlags := 4122, slot := 3, constantValue := 0 }]
  methods := #[k6m0, k6m1, k6m2]
  instanceTypes := #[(.object "java/lang/String"), .int, .int, (.object "java/lang/String"), (.object "java/util/function/Supplier")]
  staticTypes := #[(.object "dev/tryst/tool/Workload$QueueKind"), (.object "dev/tryst/tool/Workload$QueueKind"), (.object "dev/tryst/tool/Workload$QueueKind"), (.array (.object "dev/tryst/tool/Workload$QueueKind"))]
  resolved := Array.replicate 150 none
  statics := some 0 }

def pool7 : Array CpInfo := pool [(1, .class_ 2), (0, u "java/lang/Cloneable"), (0, .class_ 4), (0, u "java/lang/Object")] 2

/-- java/lang/Cloneable -/
def k7 : Class := { plain "java/lang/Cloneable" (some 0) with
  accessFlags := 1537
  interfaces := #[]
  cf := some (fileOf pool7 1 #[] #[] 1537 3 #[] #[])
  fields := #[]
  methods := #[]
  instanceTypes := #[]
  staticTypes := #[]
  resolved := Array.replicate 7 none
  statics := none }

def pool8 : Array CpInfo := pool [(2, .class_ 4), (1, u "java/lang/CharSequence"), (42, .class_ 48), (0, u "java/lang/CharSequence$1CodePointIterator"), (10, .class_ 60), (0, u "java/lang/CharSequence$1CharIterator"), (5, .class_ 67), (0, u "java/lang/Object")] 63

/-- java/lang/CharSequence -/
def k8 : Class := { plain "java/lang/CharSequence" (some 0) with
  accessFlags := 1537
  interfaces := #[]
  cf := some (fileOf pool8 2 #[.nestMembers #[47, 59]] #[] 1537 66 #[] #[])
  fields := #[]
  methods := #[]
  instanceTypes := #[]
  staticTypes := #[]
  resolved := Array.replicate 131 none
  statics := none }

def pool9 : Array CpInfo := pool [(1, .class_ 2), (0, u "java/lang/constant/ConstantDesc"), (0, .class_ 4), (0, u "java/lang/Object")] 32

/-- java/lang/constant/ConstantDesc -/
def k9 : Class := { plain "java/lang/constant/ConstantDesc" (some 0) with
  accessFlags := 1537
  interfaces := #[]
  cf := some (fileOf pool9 1 #[] #[] 1537 3 #[] #[])
  fields := #[]
  methods := #[]
  instanceTypes := #[]
  staticTypes := #[]
  resolved := Array.replicate 37 none
  statics := none }

def pool10 : Array CpInfo := pool [(2, .class_ 4), (1, u "java/lang/Object"), (0, u "<init>"), (0, u "()V"), (2, .fieldref 10 11), (0, .class_ 12), (0, .nameAndType 13 14), (0, u "java/lang/String"), (0, u "value"), (0, u "[B"), (0, .fieldref 10 16), (0, .nameAndType 17 18), (0, u "coder"), (0, u "B"), (2, u "hash"), (0, u "I"), (2, u "hashIsZero"), (0, u "Z"), (11, .fieldref 10 39), (0, .nameAndType 40 26), (0, u "COMPACT_STRINGS"), (66, .class_ 109), (1, u "java/lang/StringLatin1"), (431, .methodref 107 542), (0, .nameAndType 543 544), (0, u "equals"), (0, u "([B[B)Z"), (28, u "(Ljava/lang/Object;)Z"), (1, .class_ 576), (0, u "java/lang/CharSequence"), (22, u "CASE_INSENSITIVE_ORDER"), (0, u "Ljava/util/Comparator;"), (500, u "serialPersistentFields"), (0, u "[Ljava/io/ObjectStreamField;"), (0, .class_ 1104), (0, u "java/lang/String$CaseInsensitiveComparator"), (1, .class_ 1107), (0, u "java/io/Serializable"), (0, .class_ 1109), (0, u "java/lang/Comparable"), (0, .class_ 1111), (0, u "java/lang/constant/Constable"), (0, .class_ 1113), (0, u "java/lang/constant/ConstantDesc"), (2, u "serialVersionUID"), (0, u "J"), (3, u "REPL"), (0, u "C"), (2, u "LATIN1"), (1, u "UTF16")] 323

def k10m0 : Method := { name := "<init>", desc := "()V", sig := { parameters := [], returnType := none }, accessFlags := 1, code := none }
def k10c1 : Code := { maxStack := 2, maxLocals := 3, code := jdk_42_method_66_code, exceptionTable := #[], attributes := #[] }
def k10m1 : Method := { name := "equals", desc := "(Ljava/lang/Object;)Z", sig := { parameters := [(.object "java/lang/Object")], returnType := some .boolean }, accessFlags := 1, code := some k10c1 }
/-- java/lang/String -/
def k10 : Class := { plain "java/lang/String" (some 0) with
  accessFlags := 49
  interfaces := #[4, 3, 8, 2, 9]
  cf := some (fileOf pool10 10 #[.nestMembers #[1103]] #[{ accessFlags := 1, nameIndex := 5, descriptorIndex := 6, attributes := #[] }, { accessFlags := 1, nameIndex := 543, descriptorIndex := 573, attributes := #[] }] 49 2 #[1106, 1108, 575, 1110, 1112] #[{ accessFlags := 18, nameIndex := 13, descriptorIndex := 14, attributes := #[] }, { accessFlags := 18, nameIndex := 17, descriptorIndex := 18, attributes := #[] }, { accessFlags := 2, nameIndex := 21, descriptorIndex := 22, attributes := #[] }, { accessFlags := 2, nameIndex := 25, descriptorIndex := 26, attributes := #[] }, { accessFlags := 26, nameIndex := 1116, descriptorIndex := 1117, attributes := #[] }, { accessFlags := 24, nameIndex := 40, descriptorIndex := 26, attributes := #[] }, { accessFlags := 26, nameIndex := 1101, descriptorIndex := 1102, attributes := #[] }, { accessFlags := 26, nameIndex := 1121, descriptorIndex := 1122, attributes := #[] }, { accessFlags := 25, nameIndex := 599, descriptorIndex := 600, attributes := #[] }, { accessFlags := 24, nameIndex := 1125, descriptorIndex := 18, attributes := #[] }, { accessFlags := 24, nameIndex := 1127, descriptorIndex := 18, attributes := #[] }])
  fields := #[{ name := "value", type := (.array .byte), accessFlags := 18, slot := 0, constantValue := 0 }, { name := "coder", type := .byte, accessFlags := 18, slot := 1, constantValue := 0 }, { name := "hash", type := .int, accessFlags := 2, slot := 2, constantValue := 0 }, { name := "hashIsZero", type := .boolean, accessFlags := 2, slot := 3, constantValue := 0 }, { name := "serialVersionUID", type := .long, accessFlags := 26, slot := 0, constantValue := 0 }, { name := "COMPACT_STRINGS", type := .boolean, accessFlags := 24, slot := 1, constantValue := 0 }, { name := "serialPersistentFields", type := (.array (.object "java/io/ObjectStreamField")), accessFlags := 26, slot := 2, constantValue := 0 }, { name := "REPL", type := .char, accessFlags := 26, slot := 3, constantValue := 0 }, { name := "CASE_INSENSITIVE_ORDER", type := (.object "java/util/Comparator"), accessFlags := 25, slot := 4, constantValue := 0 }, { name := "LATIN1", type := .byte, accessFlags := 24, slot := 5, constantValue := 0 }, { name := "UTF16", type := .byte, accessFlags := 24, slot := 6, constantValue := 0 }]
  methods := #[k10m0, k10m1]
  instanceTypes := #[(.array .byte), .byte, .int, .boolean]
  staticTypes := #[.long, .boolean, (.array (.object "java/io/ObjectStreamField")), .char, (.object "java/util/Comparator"), .byte, .byte]
  resolved := Array.replicate 1451 none
  statics := some 1 }

def pool11 : Array CpInfo := pool [(4, .class_ 6), (1, u "java/lang/Object"), (0, u "<init>"), (0, u "()V"), (5, .class_ 16), (1, u "java/lang/StringLatin1"), (104, u "$assertionsDisabled"), (0, u "Z"), (98, .class_ 223), (1, u "java/lang/StringLatin1$LinesSpliterator"), (57, u "equals"), (0, u "([B[B)Z"), (107, .class_ 391), (0, u "java/lang/StringLatin1$CharsSpliterator")] 3

def k11m0 : Method := { name := "<init>", desc := "()V", sig := { parameters := [], returnType := none }, accessFlags := 0, code := none }
def k11c1 : Code := { maxStack := 3, maxLocals := 3, code := jdk_43_method_13_code, exceptionTable := #[], attributes := #[] }
def k11m1 : Method := { name := "equals", desc := "([B[B)Z", sig := { parameters := [(.array .byte), (.array .byte)], returnType := some .boolean }, accessFlags := 9, code := some k11c1 }
/-- java/lang/StringLatin1 -/
def k11 : Class := { plain "java/lang/StringLatin1" (some 0) with
  accessFlags := 48
  interfaces := #[]
  cf := some (fileOf pool11 14 #[.nestMembers #[390, 221]] #[{ accessFlags := 0, nameIndex := 7, descriptorIndex := 8, attributes := #[] }, { accessFlags := 9, nameIndex := 281, descriptorIndex := 282, attributes := #[] }] 48 4 #[] #[{ accessFlags := 4120, nameIndex := 121, descriptorIndex := 122, attributes := #[] }])
  fields := #[{ name := "$assertionsDisabled", type := .boolean, accessFlags := 4120, slot := 0, constantValue := 0 }]
  methods := #[k11m0, k11m1]
  instanceTypes := #[]
  staticTypes := #[.boolean]
  resolved := Array.replicate 395 none
  statics := none }

def pool12 : Array CpInfo := pool [(2, .class_ 4), (1, u "java/lang/Object"), (0, u "<init>"), (0, u "()V"), (17, .class_ 26), (1, u "jdk/internal/util/Preconditions"), (28, .class_ 56), (0, u "jdk/internal/util/Preconditions$4"), (57, .class_ 115), (0, u "jdk/internal/util/Preconditions$1"), (7, u "SIOOBE_FORMATTER"), (0, u "Ljava/util/function/BiFunction;"), (0, .class_ 126), (0, u "jdk/internal/util/Preconditions$2"), (3, u "AIOOBE_FORMATTER"), (0, .class_ 132), (0, u "jdk/internal/util/Preconditions$3"), (3, u "IOOBE_FORMATTER")] 57

def k12m0 : Method := { name := "<init>", desc := "()V", sig := { parameters := [], returnType := none }, accessFlags := 1, code := none }
/-- jdk/internal/util/Preconditions -/
def k12 : Class := { plain "jdk/internal/util/Preconditions" (some 0) with
  accessFlags := 33
  interfaces := #[]
  cf := some (fileOf pool12 24 #[.nestMembers #[55, 131, 125, 114]] #[{ accessFlags := 1, nameIndex := 5, descriptorIndex := 6, attributes := #[] }] 33 2 #[] #[{ accessFlags := 25, nameIndex := 123, descriptorIndex := 124, attributes := #[] }, { accessFlags := 25, nameIndex := 130, descriptorIndex := 124, attributes := #[] }, { accessFlags := 25, nameIndex := 136, descriptorIndex := 124, attributes := #[] }])
  fields := #[{ name := "SIOOBE_FORMATTER", type := (.object "java/util/function/BiFunction"), accessFlags := 25, slot := 0, constantValue := 0 }, { name := "AIOOBE_FORMATTER", type := (.object "java/util/function/BiFunction"), accessFlags := 25, slot := 1, constantValue := 0 }, { name := "IOOBE_FORMATTER", type := (.object "java/util/function/BiFunction"), accessFlags := 25, slot := 2, constantValue := 0 }]
  methods := #[k12m0]
  instanceTypes := #[]
  staticTypes := #[(.object "java/util/function/BiFunction"), (.object "java/util/function/BiFunction"), (.object "java/util/function/BiFunction")]
  resolved := Array.replicate 194 none
  statics := some 2 }

def pool13 : Array CpInfo := pool [(9, u "<init>"), (6, .class_ 18), (1, u "java/lang/Object"), (0, u "()V"), (1, .class_ 23), (1, u "jdk/internal/util/ArraysSupport"), (0, u "LOG2_ARRAY_LONG_INDEX_SCALE"), (0, u "I"), (2, u "U"), (0, u "Ljdk/internal/misc/Unsafe;"), (8, u "BIG_ENDIAN"), (0, u "Z"), (8, u "LOG2_BYTE_BIT_SIZE"), (4, u "LOG2_ARRAY_INT_INDEX_SCALE"), (54, u "JLA"), (0, u "Ljdk/internal/access/JavaLangAccess;"), (11, u "LOG2_ARRAY_BOOLEAN_INDEX_SCALE"), (9, u "LOG2_ARRAY_BYTE_INDEX_SCALE"), (5, u "LOG2_ARRAY_CHAR_INDEX_SCALE"), (5, u "LOG2_ARRAY_SHORT_INDEX_SCALE"), (18, u "LOG2_ARRAY_FLOAT_INDEX_SCALE"), (24, u "LOG2_ARRAY_DOUBLE_INDEX_SCALE"), (89, u "T_BOOLEAN"), (2, u "T_CHAR"), (1, u "T_FLOAT"), (1, u "T_DOUBLE"), (1, u "T_BYTE"), (1, u "T_SHORT"), (1, u "T_INT"), (1, u "T_LONG"), (1, u "SOFT_MAX_ARRAY_LENGTH")] 83

def k13m0 : Method := { name := "<init>", desc := "()V", sig := { parameters := [], returnType := none }, accessFlags := 2, code := none }
/-- jdk/internal/util/ArraysSupport -/
def k13 : Class := { plain "jdk/internal/util/ArraysSupport" (some 0) with
  accessFlags := 33
  interfaces := #[]
  cf := some (fileOf pool13 21 #[] #[{ accessFlags := 2, nameIndex := 9, descriptorIndex := 19, attributes := #[] }] 33 16 #[] #[{ accessFlags := 24, nameIndex := 28, descriptorIndex := 29, attributes := #[] }, { accessFlags := 26, nameIndex := 38, descriptorIndex := 39, attributes := #[] }, { accessFlags := 25, nameIndex := 121, descriptorIndex := 25, attributes := #[] }, { accessFlags := 25, nameIndex := 131, descriptorIndex := 25, attributes := #[] }, { accessFlags := 25, nameIndex := 137, descriptorIndex := 25, attributes := #[] }, { accessFlags := 25, nameIndex := 143, descriptorIndex := 25, attributes := #[] }, { accessFlags := 25, nameIndex := 53, descriptorIndex := 25, attributes := #[] }, { accessFlags := 25, nameIndex := 24, descriptorIndex := 25, attributes := #[] }, { accessFlags := 25, nameIndex := 162, descriptorIndex := 25, attributes := #[] }, { accessFlags := 25, nameIndex := 187, descriptorIndex := 25, attributes := #[] }, { accessFlags := 26, nameIndex := 48, descriptorIndex := 25, attributes := #[] }, { accessFlags := 25, nameIndex := 277, descriptorIndex := 25, attributes := #[] }, { accessFlags := 25, nameIndex := 280, descriptorIndex := 25, attributes := #[] }, { accessFlags := 25, nameIndex := 282, descriptorIndex := 25, attributes := #[] }, { accessFlags := 25, nameIndex := 284, descriptorIndex := 25, attributes := #[] }, { accessFlags := 25, nameIndex := 286, descriptorIndex := 25, attributes := #[] }, { accessFlags := 25, nameIndex := 288, descriptorIndex := 25, attributes := #[] }, { accessFlags := 25, nameIndex := 290, descriptorIndex := 25, attributes := #[] }, { accessFlags := 25, nameIndex := 292, descriptorIndex := 25, attributes := #[] }, { accessFlags := 26, nameIndex := 108, descriptorIndex := 109, attributes := #[] }, { accessFlags := 25, nameIndex := 294, descriptorIndex := 25, attributes := #[] }])
  fields := #[{ name := "U", type := (.object "jdk/internal/misc/Unsafe"), accessFlags := 24, slot := 0, constantValue := 0 }, { name := "BIG_ENDIAN", type := .boolean, accessFlags := 26, slot := 1, constantValue := 0 }, { name := "LOG2_ARRAY_BOOLEAN_INDEX_SCALE", type := .int, accessFlags := 25, slot := 2, constantValue := 0 }, { name := "LOG2_ARRAY_BYTE_INDEX_SCALE", type := .int, accessFlags := 25, slot := 3, constantValue := 0 }, { name := "LOG2_ARRAY_CHAR_INDEX_SCALE", type := .int, accessFlags := 25, slot := 4, constantValue := 0 }, { name := "LOG2_ARRAY_SHORT_INDEX_SCALE", type := .int, accessFlags := 25, slot := 5, constantValue := 0 }, { name := "LOG2_ARRAY_INT_INDEX_SCALE", type := .int, accessFlags := 25, slot := 6, constantValue := 0 }, { name := "LOG2_ARRAY_LONG_INDEX_SCALE", type := .int, accessFlags := 25, slot := 7, constantValue := 0 }, { name := "LOG2_ARRAY_FLOAT_INDEX_SCALE", type := .int, accessFlags := 25, slot := 8, constantValue := 0 }, { name := "LOG2_ARRAY_DOUBLE_INDEX_SCALE", type := .int, accessFlags := 25, slot := 9, constantValue := 0 }, { name := "LOG2_BYTE_BIT_SIZE", type := .int, accessFlags := 26, slot := 10, constantValue := 0 }, { name := "T_BOOLEAN", type := .int, accessFlags := 25, slot := 11, constantValue := 0 }, { name := "T_CHAR", type := .int, accessFlags := 25, slot := 12, constantValue := 0 }, { name := "T_FLOAT", type := .int, accessFlags := 25, slot := 13, constantValue := 0 }, { name := "T_DOUBLE", type := .int, accessFlags := 25, slot := 14, constantValue := 0 }, { name := "T_BYTE", type := .int, accessFlags := 25, slot := 15, constantValue := 0 }, { name := "T_SHORT", type := .int, accessFlags := 25, slot := 16, constantValue := 0 }, { name := "T_INT", type := .int, accessFlags := 25, slot := 17, constantValue := 0 }, { name := "T_LONG", type := .int, accessFlags := 25, slot := 18, constantValue := 0 }, { name := "JLA", type := (.object "jdk/internal/access/JavaLangAccess"), accessFlags := 26, slot := 19, constantValue := 0 }, { name := "SOFT_MAX_ARRAY_LENGTH", type := .int, accessFlags := 25, slot := 20, constantValue := 0 }]
  methods := #[k13m0]
  instanceTypes := #[]
  staticTypes := #[(.object "jdk/internal/misc/Unsafe"), .boolean, .int, .int, .int, .int, .int, .int, .int, .int, .int, .int, .int, .int, .int, .int, .int, .int, .int, (.object "jdk/internal/access/JavaLangAccess"), .int]
  resolved := Array.replicate 378 none
  statics := none }

/-- the primitive byte -/
def k14 : Class := { plain "byte" none with kind := .primitive 'B', accessFlags := 0x411 }
/-- [B -/
def k15 : Class := { plain "[B" (some 0) with kind := .array 14 .byte, interfaces := #[7, 4], accessFlags := 1041 }

/-- the primitive int -/
def k16 : Class := { plain "int" none with kind := .primitive 'I', accessFlags := 0x411 }
/-- [I -/
def k17 : Class := { plain "[I" (some 0) with kind := .array 16 .int, interfaces := #[7, 4], accessFlags := 1041 }

/-- [Ldev/tryst/tool/Workload$QueueKind; -/
def k18 : Class := { plain "[Ldev/tryst/tool/Workload$QueueKind;" (some 0) with kind := .array 6 (.object "dev/tryst/tool/Workload$QueueKind"), interfaces := #[7, 4], accessFlags := 1041 }

/-- [Ljava/lang/String; -/
def k19 : Class := { plain "[Ljava/lang/String;" (some 0) with kind := .array 10 (.object "java/lang/String"), interfaces := #[7, 4], accessFlags := 1041 }

def heap : Heap := #[{ cls := 6, slots := #[.ref 4, .ref 5, .ref 6, .ref 3], vm := .statics 6 },
  { cls := 10, slots := #[.long 0, .int 1, .null, .int 0, .null, .int 0, .int 0], vm := .statics 10 },
  { cls := 12, slots := #[.null, .null, .null], vm := .statics 12 },
  { cls := 18, slots := #[.ref 4, .ref 5, .ref 6], vm := .none },
  { cls := 6, slots := #[.null, .int 0, .int 0, .ref 7, .null], vm := .none },
  { cls := 6, slots := #[.null, .int 0, .int 0, .ref 8, .null], vm := .none },
  { cls := 6, slots := #[.null, .int 0, .int 0, .ref 9, .null], vm := .none },
  { cls := 10, slots := #[.ref 10, .int 0, .int 0, .int 0], vm := .none },
  { cls := 10, slots := #[.ref 11, .int 0, .int 0, .int 0], vm := .none },
  { cls := 10, slots := #[.ref 12, .int 0, .int 0, .int 0], vm := .none },
  { cls := 15, slots := #[.int 97, .int 114, .int 114, .int 97, .int 121], vm := .none },
  { cls := 15, slots := #[.int 108, .int 105, .int 110, .int 107, .int 101, .int 100], vm := .none },
  { cls := 15, slots := #[.int 108, .int 105, .int 110, .int 107, .int 101, .int 100, .int 45, .int 100, .int 101, .int 113, .int 117, .int 101], vm := .none }]
def classes : Array Class := #[k0, k1, k2, k3, k4, k5, k6, k7, k8, k9, k10, k11, k12, k13, k14, k15, k16, k17, k18, k19]
def interned : List (Array UInt16 × Addr) := []
def slotsUsed : Nat := 67
def theMethod : MethodId := ⟨1, 1⟩
def args0 : Array Value := #[.int 5]
def aboutOver (below : List Frame) : State where
  vm := { classes := classes, interned := interned.toArray }
  heap := heap
  slotsUsed := slotsUsed
  threads := #[{ frames := .invoking theMethod args0 :: below }]
def below0 : List Frame := [.native { method := ⟨0, 0⟩, args := #[] }]
def about1 : State := aboutOver below0
def p0 : Program := .bare "" "" ""
def e0 : Env := launch0.env 0 0 0
theorem w_frames : about1.frames = Frame.invoking theMethod args0 :: below0 := rfl
set_option maxRecDepth 65536 in
theorem w_args : argsFit about1.vm theMethod args0 = true := by decide +kernel
set_option maxRecDepth 65536 in
theorem w_heap : heapFits about1 = true := by decide +kernel
set_option maxRecDepth 65536 in
theorem w_runnable : about1.curStatus? = some .runnable := by decide +kernel
set_option maxRecDepth 65536 in
theorem w_alone : about1.alone = true := by decide +kernel
set_option maxRecDepth 65536 in
theorem w_named : about1.methodNamed? x = some theMethod := by decide +kernel
set_option maxRecDepth 65536 in
theorem w_hears : about1.hears theMethod below0 = true := by decide +kernel
set_option maxRecDepth 65536 in
theorem w_ripe : about1.ripe theMethod args0 below0 = true := by decide +kernel
theorem w_running : about1.status = .running := rfl
set_option maxRecDepth 65536 in
theorem w_room : about1.hasRoom e0.platform room_1 = true :=
  launch0.hasRoom_least _ room_1 (by decide +kernel) (by decide +kernel) (by decide +kernel) (by decide +kernel) (by decide +kernel) (by decide +kernel)
theorem allAtoms_all (ts : List Jvm.Cond) (a : Array Jvm.Value) (st : Jvm.State) : (allAtoms ts).before a st = ts.all (fun c => c.before a st) := by
  induction ts with
  | nil => rfl
  | cons c t ih =>
    show (Jvm.Cond.and c (allAtoms t)).before a st = _
    rw [Jvm.Cond.before_and, ih, List.all_cons]
def words1 : List Jvm.Cond := Jvm.Cond.code x code maxLocals ret :: tables_1
/-- a 'code' word, met by the world's own term for the bytes: nothing is compared byte by byte -/
theorem code_word {y : MethodName} {bytes : ByteArray} {mx : Nat} {rt : Option FieldType} {a : Array Value} {s : State} {m : MethodId} {meth : Method} {c : Code} (h1 : s.methodNamed? y = some m) (h2 : s.vm.method? m = some meth) (h3 : meth.code = some c) (h4 : c.code = bytes)
    (h5 : (c.maxLocals == mx && c.exceptionTable.isEmpty && decide (c.maxStack ≤ mostOperands) && decide (meth.sig.returnType = rt) && !meth.locks && decide (parseMethodDescriptor y.desc = some meth.sig)) = true) : (Jvm.Cond.code y bytes mx rt).before a s = true := by
  simp only [Bool.and_eq_true, beq_iff_eq, Bool.not_eq_true', decide_eq_true_eq] at h5
  obtain ⟨⟨⟨⟨⟨g1, g2⟩, g3⟩, g4⟩, g5⟩, g6⟩ := h5
  simp [Cond.before, Cond.holds, Cond.value, h1, h2, h3, h4, g1, g2, g3, g4, g5, g6]
def isCode : Jvm.Cond → Bool
  | .code _ _ _ _ => true
  | _ => false
theorem all_split {L : List Jvm.Cond} {P : Jvm.Cond → Bool} (h1 : L.all (fun c => isCode c || P c) = true) (h2 : ∀ c ∈ L.filter isCode, P c = true) : L.all P = true := by
  refine List.all_eq_true.mpr fun c hc => ?_
  have h := List.all_eq_true.mp h1 c hc
  rcases Bool.eq_false_or_eq_true (isCode c) with hi | hi
  · exact h2 c (List.mem_filter.mpr ⟨hc, hi⟩)
  · simpa [hi] using h
set_option maxRecDepth 65536 in
theorem w_c0 : (Jvm.Cond.code x code maxLocals ret).before args0 about1 = true := code_word (m := ⟨1, 1⟩) (meth := k1m1) (c := k1c1) (by decide +kernel) rfl rfl rfl (by decide +kernel)
set_option maxRecDepth 65536 in
theorem w_c1 : (Jvm.Cond.code ({ cls := "dev/tryst/tool/Workload$QueueKind", name := "words", desc := "()[Ljava/lang/String;" } : Jvm.MethodName) prog_40_method_4_code (3 : Nat) (Option.some (Jvm.ClassFile.FieldType.array (Jvm.ClassFile.FieldType.object "java/lang/String")))).before args0 about1 = true := code_word (m := ⟨6, 1⟩) (meth := k6m1) (c := k6c1) (by decide +kernel) rfl rfl rfl (by decide +kernel)
set_option maxRecDepth 65536 in
theorem w_c2 : (Jvm.Cond.code ({ cls := "dev/tryst/tool/Workload$QueueKind", name := "values", desc := "()[Ldev/tryst/tool/Workload$QueueKind;" } : Jvm.MethodName) prog_40_method_1_code (0 : Nat) (Option.some (Jvm.ClassFile.FieldType.array (Jvm.ClassFile.FieldType.object "dev/tryst/tool/Workload$QueueKind")))).before args0 about1 = true := code_word (m := ⟨6, 0⟩) (meth := k6m0) (c := k6c0) (by decide +kernel) rfl rfl rfl (by decide +kernel)
set_option maxRecDepth 65536 in
theorem w_c3 : (Jvm.Cond.code ({ cls := "java/lang/String", name := "equals", desc := "(Ljava/lang/Object;)Z" } : Jvm.MethodName) jdk_42_method_66_code (3 : Nat) (Option.some Jvm.ClassFile.FieldType.boolean)).before args0 about1 = true := code_word (m := ⟨10, 1⟩) (meth := k10m1) (c := k10c1) (by decide +kernel) rfl rfl rfl (by decide +kernel)
set_option maxRecDepth 65536 in
theorem w_c4 : (Jvm.Cond.code ({ cls := "java/lang/StringLatin1", name := "equals", desc := "([B[B)Z" } : Jvm.MethodName) jdk_43_method_13_code (3 : Nat) (Option.some Jvm.ClassFile.FieldType.boolean)).before args0 about1 = true := code_word (m := ⟨11, 1⟩) (meth := k11m1) (c := k11c1) (by decide +kernel) rfl rfl rfl (by decide +kernel)
set_option maxRecDepth 65536 in
theorem w_c5 : (Jvm.Cond.code ({ cls := "dev/tryst/tool/Workload$QueueKind", name := "of", desc := "(Ljava/lang/String;)Ldev/tryst/tool/Workload$QueueKind;" } : Jvm.MethodName) prog_40_method_5_code (5 : Nat) (Option.some (Jvm.ClassFile.FieldType.object "dev/tryst/tool/Workload$QueueKind"))).before args0 about1 = true := code_word (m := ⟨6, 2⟩) (meth := k6m2) (c := k6c2) (by decide +kernel) rfl rfl rfl (by decide +kernel)
def codes1 : List Jvm.Cond := [Jvm.Cond.code x code maxLocals ret, Jvm.Cond.code ({ cls := "dev/tryst/tool/Workload$QueueKind", name := "words", desc := "()[Ljava/lang/String;" } : Jvm.MethodName) prog_40_method_4_code (3 : Nat) (Option.some (Jvm.ClassFile.FieldType.array (Jvm.ClassFile.FieldType.object "java/lang/String"))), Jvm.Cond.code ({ cls := "dev/tryst/tool/Workload$QueueKind", name := "values", desc := "()[Ldev/tryst/tool/Workload$QueueKind;" } : Jvm.MethodName) prog_40_method_1_code (0 : Nat) (Option.some (Jvm.ClassFile.FieldType.array (Jvm.ClassFile.FieldType.object "dev/tryst/tool/Workload$QueueKind"))), Jvm.Cond.code ({ cls := "java/lang/String", name := "equals", desc := "(Ljava/lang/Object;)Z" } : Jvm.MethodName) jdk_42_method_66_code (3 : Nat) (Option.some Jvm.ClassFile.FieldType.boolean), Jvm.Cond.code ({ cls := "java/lang/StringLatin1", name := "equals", desc := "([B[B)Z" } : Jvm.MethodName) jdk_43_method_13_code (3 : Nat) (Option.some Jvm.ClassFile.FieldType.boolean), Jvm.Cond.code ({ cls := "dev/tryst/tool/Workload$QueueKind", name := "of", desc := "(Ljava/lang/String;)Ldev/tryst/tool/Workload$QueueKind;" } : Jvm.MethodName) prog_40_method_5_code (5 : Nat) (Option.some (Jvm.ClassFile.FieldType.object "dev/tryst/tool/Workload$QueueKind"))]
set_option maxRecDepth 65536 in
theorem codes_eq : words1.filter isCode = codes1 := rfl
theorem w_codes : ∀ c ∈ words1.filter isCode, c.before args0 about1 = true := by
  rw [codes_eq]
  intro c hc
  simp only [codes1, List.mem_cons, List.not_mem_nil, or_false] at hc
  rcases hc with rfl | rfl | rfl | rfl | rfl | rfl
  · exact w_c0
  · exact w_c1
  · exact w_c2
  · exact w_c3
  · exact w_c4
  · exact w_c5
set_option maxRecDepth 65536 in
theorem w_t1 : (words1.take 24).all (fun c => isCode c || c.before args0 about1) = true := by decide +kernel
set_option maxRecDepth 65536 in
theorem w_t2 : ((words1.drop 24).take 24).all (fun c => isCode c || c.before args0 about1) = true := by decide +kernel
set_option maxRecDepth 65536 in
theorem w_t3 : ((words1.drop 24).drop 24).all (fun c => isCode c || c.before args0 about1) = true := by decide +kernel
theorem w_tables : (allAtoms (Jvm.Cond.code x code maxLocals ret :: tables_1)).before args0 about1 = true := by
  rw [allAtoms_all]
  show words1.all (fun c => c.before args0 about1) = true
  refine all_split ?_ w_codes
  rw [← List.take_append_drop 24 words1, List.all_append, w_t1, ← List.take_append_drop 24 (words1.drop 24), List.all_append, w_t2, w_t3]
  rfl
set_option maxRecDepth 65536 in
theorem w_rest : rest_1_c.before args0 about1 = true := by decide +kernel
set_option maxRecDepth 65536 in
theorem w_case : (Jvm.Cond.and given_1 narrow_1).before args0 about1 = true := by decide +kernel
set_option maxRecDepth 65536 in
theorem w_consts : constsHeld consts_1 about1 := Jvm.Lit.constsHeldB_iff.mp (by decide +kernel)
theorem w_applies : (headSpec (Jvm.Cond.code x code maxLocals ret :: tables_1) room_1).applies x e0.platform about1 = true :=
  (Spec.applies_iff w_frames).mpr ⟨w_running, w_runnable, w_alone, w_named, w_hears, w_ripe, w_room, w_tables⟩
theorem atStart : AtStart classFile x code maxLocals ret World_1 tables_1 room_1 Calls_1 rest_1 Pre_1 launch0 p0 e0 about1 theMethod args0 below0 :=
  ⟨lists_1, trivial, launch0.admits_env _ _ _, launch0.least_env, fairChoices_fair.cas, fairChoices_fair.clock, w_frames, w_args, w_heap, w_applies, ⟨w_consts, trivial⟩, w_rest, w_case⟩
end start1
theorem witness_1 : WitnessClaimed_1 := ⟨start1.p0, start1.e0, start1.about1, start1.theMethod, start1.args0, start1.below0, start1.atStart⟩
end Jvm.Pilot.@@N@@
