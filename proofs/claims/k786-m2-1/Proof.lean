import JvmDerived
import JvmDerived.Pilot.@@N@@Statement
import JvmDerived.Pilot.@@N@@Code
set_option linter.unusedVariables false
set_option linter.unusedSimpArgs false
namespace Jvm.RoadKit
open Sem ClassFile Op Lib Jvm.Stand Jvm.Free Jvm.LawKit
section New
variable {p : Program} {l : Launch} {e : Env} {R : Room} {s : State} {m : MethodId} {args : Array Value} {below : List Frame} {meth : Method} {c : Code} {T : State} {locs : List Loc} {cells slots : Nat}
theorem retI (X : Stand p l e R s m args below meth c T locs cells slots) (hx : p.tables.exec = Jvm.exec) {pc : Nat} {Ls : Array Slot} {z : Int32} {rest : List Value} (hret : meth.sig.returnType = some .int) (hd : decode c.code pc = .ok (.ireturn, 1)) {fs : List Frame}
    (hl : ∀ (f : JFrame) (acts : List Action), f.method = m → f.locked = none → f.entered = [] → (doReturn e (T.setTop f) acts (some (.int z))).1 = T.setFrames fs) : Steps p.tables e below (T.setTop (mkF m pc Ls (.int z :: rest))) (T.setFrames fs) := by
  have hm' : T.vm.method? m = some meth := X.method'
  have hn : narrow .int (.int z) = .int z := rfl
  show Steps p.tables e below (T.setTop { method := m, pc := pc, locals := Ls, stack := _ :: rest, locked := none }) _
  jvm_step X.here [X.here.top, hx, hd, hm', hret, hn]
  first | (intro acts; rw [hl _ acts rfl rfl rfl]) | rw [hl _ _ rfl rfl rfl]
  exact Steps.refl _
end New
end Jvm.RoadKit
namespace Jvm.Pilot.@@N@@
open Jvm Jvm.ClassFile Sem Op Lib Jvm.Free Jvm.Stand Jvm.LawKit Jvm.RoadKit Bundle Jvm.Pilot.@@N@@.Jvm.D
def irm (a b : Int32) : Int32 := a - a / b * b
theorem wi {Z : State} {a0 : Array Value} (hw : ∀ d ∈ tables_1, d.before a0 Z = true) {d : Jvm.Cond} (i : Nat) (h : tables_1[i]? = some d) : d.before a0 Z = true := hw d (List.mem_of_getElem? h)
theorem own_uniq {Z : State} {h : Heap} {a : Addr} {C n d : String} {v w : Value} (F : Fld Z h a C n d v) (G : Fld Z h a C n d w) : v = w := by
  obtain ⟨c1, cf1, k1, i1, f1, a1, a2, -, -, -, -, a7⟩ := F
  obtain ⟨c2, cf2, k2, i2, f2, b1, b2, -, -, -, -, b7⟩ := G
  cases a1.symm.trans b1
  cases a2.symm.trans b2
  exact Option.some.inj (a7.symm.trans b7)
theorem own_ne {Z : State} {h : Heap} {a b : Addr} {C n d : String} {v w : Value} (F : Fld Z h a C n d v) (G : Fld Z h b C n d w) (hn : v ≠ w) : a ≠ b := fun e => by
  subst e
  exact hn (own_uniq F G)
theorem own_fldI {s : State} {args : Array Value} {t : Term} {a : Addr} {C n d : String} {k : Int32} (ev : t.eval args s none [] s = some (.ref a)) (h : (Cond.eq (Term.field t C n d) (Term.int k)).value args s none s [] = some true) : Fld s s.heap a C n d (.int k) := Fld.start ((fld_at ev).symm.trans (eqv_i rfl h))
theorem own_mvMN {Z s : State} {a0 args : Array Value} {own host : String} {index : Nat} {y : MethodName} (hZ : Z.Warmed39 s.vm) (w : (Cond.methodLinkNest own index y host).before a0 Z = true) : (Cond.methodLinkNest own index y host).before args s = true := (Cond.methodLinkNest_wide hZ w :)
theorem own_getFR {p : Program} {l : Launch} {e : Env} {R : Room} {s : State} {m : MethodId} {args : Array Value} {below : List Frame} {meth : Method} {c : Code} {T : State} {locs : List Loc} {cells slots : Nat} {Z : State} {a0 : Array Value} {h : Heap}
    (X : Stand p l e R s m args below meth c T locs cells slots) (hx : p.tables.exec = Jvm.exec) (hZ : Z.Warmed39 s.vm) {own O n d : String} {index : Nat} (hown : s.vm.findClass own = some m.cls) (w : (Cond.fieldRef own index O n d).before a0 Z = true)
    (eT : T.heap = h) {a : Addr} {v : Value} (F : Fld Z h a O n d v) {g : JFrame} (hg : g.method = m) {rest : List Value} (hs : g.stack = .ref a :: rest) (hd : decode c.code g.pc = .ok (.getfield index, 3)) :
    ∃ T', Stand p l e R s m args below meth c T' locs cells slots ∧ T'.heap = h ∧ ∀ target, Steps p.tables e below (T'.setTop { g with pc := g.pc + 3, stack := v :: rest }) target → Steps p.tables e below (T.setTop g) target := by
  obtain ⟨cell, cf, k, i, f, h1, h2, h3, h4, -, -, h7⟩ := F
  have hT : Z.Warmed39 T.vm := wtrans hZ X.warmed
  have w' := Cond.fieldRef_warmed39 hT w
  have hcur : (Z.setVm T.vm).vm.findClass own = some m.cls := (X.warmed.alike.findClass _ _).trans hown
  obtain ⟨c', k', i', f', q1, q2⟩ := Cond.fieldRef_spec (s := Z.setVm T.vm) hcur w'
  obtain ⟨k2, q3, -⟩ := State.fieldFound?_setVm (s := Z) hT.alike h2
  cases q3.symm.trans q1
  refine ⟨T, X, eT, fun target hrest => ?_⟩
  subst hg
  have hcell : T.heap[a]? = some cell := by rw [eT]; exact h1
  have q2' : T.vm.fieldReady g.method.cls index cf f := q2
  jvm_step X.here [hx, hd, getfield.wp_ready (e := e) (s := T) (f := g) X.here.top q2' h3 hs hcell h4 h7]
  exact hrest
def QP (r : Value) (h0 : Heap) (n0 : Nat) (v : Option Value) (h : Heap) (L : List Loc) : Prop := v = some r ∧ Fr n0 L ∧ h = h0
def Bld (Z : State) (h : Heap) (a : Addr) (v : Value) : Prop := Exa Z h a "com/example/postback/postback/Payment$Builder" ∧ Fld Z h a "com/example/postback/postback/Payment$Builder" "kind" "Lcom/example/postback/postback/PaymentKind;" .null ∧ Fld Z h a "com/example/postback/postback/Payment$Builder" "orderId" "Ljava/lang/String;" .null ∧ Fld Z h a "com/example/postback/postback/Payment$Builder" "merchantOrderId" "Ljava/lang/String;" .null ∧ Fld Z h a "com/example/postback/postback/Payment$Builder" "status" "Lcom/example/postback/postback/PaymentStatus;" v ∧ Fld Z h a "com/example/postback/postback/Payment$Builder" "gatewayStatus" "Ljava/lang/String;" .null ∧ Fld Z h a "com/example/postback/postback/Payment$Builder" "amount" "Ljava/lang/String;" .null ∧ Fld Z h a "com/example/postback/postback/Payment$Builder" "currency" "Ljava/lang/String;" .null ∧ Fld Z h a "com/example/postback/postback/Payment$Builder" "chain" "Ljava/lang/String;" .null ∧ Fld Z h a "com/example/postback/postback/Payment$Builder" "txHash" "Ljava/lang/String;" .null ∧ Fld Z h a "com/example/postback/postback/Payment$Builder" "occurredAt" "Ljava/lang/Long;" .null
def Pay (Z : State) (h : Heap) (a : Addr) (v : Value) : Prop := Exa Z h a "com/example/postback/postback/Payment" ∧ Fld Z h a "com/example/postback/postback/Payment" "kind" "Lcom/example/postback/postback/PaymentKind;" .null ∧ Fld Z h a "com/example/postback/postback/Payment" "orderId" "Ljava/lang/String;" .null ∧ Fld Z h a "com/example/postback/postback/Payment" "merchantOrderId" "Ljava/lang/String;" .null ∧ Fld Z h a "com/example/postback/postback/Payment" "status" "Lcom/example/postback/postback/PaymentStatus;" v ∧ Fld Z h a "com/example/postback/postback/Payment" "gatewayStatus" "Ljava/lang/String;" .null ∧ Fld Z h a "com/example/postback/postback/Payment" "amount" "Ljava/lang/String;" .null ∧ Fld Z h a "com/example/postback/postback/Payment" "currency" "Ljava/lang/String;" .null ∧ Fld Z h a "com/example/postback/postback/Payment" "chain" "Ljava/lang/String;" .null ∧ Fld Z h a "com/example/postback/postback/Payment" "txHash" "Ljava/lang/String;" .null ∧ Fld Z h a "com/example/postback/postback/Payment" "occurredAt" "Ljava/lang/Long;" .null
def pk (i : Int32) : String := if i = 0 then "PENDING" else if i = 1 then "CONFIRMING" else if i = 2 then "PAID" else if i = 3 then "MISMATCH" else if i = 4 then "EXPIRED" else if i = 5 then "FAILED" else if i = 6 then "AWAITING_APPROVAL" else if i = 7 then "REJECTED" else "UNKNOWN"
theorem d1_0 : decode method_2_code 0 = .ok (.iload_n 0, 1) := by decide +kernel
theorem d1_1 : decode method_2_code 1 = .ok (.ldc 7, 2) := by decide +kernel
theorem d1_3 : decode method_2_code 3 = .ok (.iand, 1) := by decide +kernel
theorem d1_4 : decode method_2_code 4 = .ok (.bipush 9, 2) := by decide +kernel
theorem d1_6 : decode method_2_code 6 = .ok (.irem, 1) := by decide +kernel
theorem d1_7 : decode method_2_code 7 = .ok (.istore_n 1, 1) := by decide +kernel
theorem d1_8 : decode method_2_code 8 = .ok (.iload_n 1, 1) := by decide +kernel
theorem d1_9 : decode method_2_code 9 = .ok (.ifCond .ne 7, 3) := by decide +kernel
theorem d1_12 : decode method_2_code 12 = .ok (.getstatic 8, 3) := by decide +kernel
theorem d1_15 : decode method_2_code 15 = .ok (.areturn, 1) := by decide +kernel
theorem ef_I_2 (m : MethodId) (x0 : Int32) : entryFrame m #[(.int x0)] 2 = mkF m 0 #[.val (.int x0), .unset] [] := by first | (simp [entryFrame, mkF, argsToLocals, Value.category]; done) | rfl
theorem pn_0 : plainName "com/example/postback/postback/BuilderStatusPinLaw" = true := by first | (simp [plainName, overriddenIn]; done) | decide +kernel
set_option maxRecDepth 65536 in
set_option maxHeartbeats 40000000 in
theorem rm1_0 (l : Launch) (Z : State) (a0 : Array Value) (hw : ∀ d ∈ tables_1, d.before a0 Z = true) (ws : List Jvm.Cond) (p1 : Int32) (w : Addr) (h0 : Heap) (n0 : Nat) (O0 : Old Z n0 h0) (S_PENDING : Sta Z Z.heap "com/example/postback/postback/PaymentStatus" "PENDING" "Lcom/example/postback/postback/PaymentStatus;" (.ref w)) (hc9 : (irm (p1 &&& (2147483647 : Int32)) (9 : Int32)) = (0 : Int32)) :
    MetFree l (⟨"com/example/postback/postback/BuilderStatusPinLaw", "pick", "(I)Lcom/example/postback/postback/PaymentStatus;"⟩ : MethodName) (head1 (Jvm.Cond.code (⟨"com/example/postback/postback/BuilderStatusPinLaw", "pick", "(I)Lcom/example/postback/postback/PaymentStatus;"⟩ : MethodName) method_2_code 2 (some (.object "com/example/postback/postback/PaymentStatus")) :: ws) ({ frames := 0, cells := 0, slots := 0, locals := 0 } : Room)) (fun a_ U => a_ = #[(.int p1)] ∧ Z.Warmed39 U.vm ∧ U.heap = h0) (fun _ _ _ _ _ => True) (fun _ U o U' => ∃ v L, o = .returned v ∧ QP (.ref w) h0 n0 v U'.heap L ∧ FrameEnd U o U' L ({ frames := 0, cells := 0, slots := 0, locals := 0 } : Room).cells ({ frames := 0, cells := 0, slots := 0, locals := 0 } : Room).slots) := by
  refine MetFree.of_bodySF (plainFor_of_name pn_0) hisR ?_
  intro p e s m args below meth c s₁ Bd hml0 hP hK
  obtain ⟨rfl, hZ, hh⟩ := hP
  have hx := Bd.exec
  have hby := Bd.bytes
  have hml : c.maxLocals = 2 := hml0
  have hown : s.vm.findClass "com/example/postback/postback/BuilderStatusPinLaw" = some m.cls := findClass_of_methodNamed Bd.named
  have hnm := (name_of_methodNamed Bd.named Bd.method).1
  have X0 : Stand p l e ({ frames := 0, cells := 0, slots := 0, locals := 0 } : Room) s m #[(.int p1)] below meth c s₁ [] 0 0 := Stand.of_body Bd
  have e0 : s₁.heap = h0 := by rw [← hh, Bd.state]; rfl
  have N0 := Fr.nil n0
  have pre0 : ∀ tg, Steps p.tables e below (s₁.setTop (mkF m 0 #[.val (.int p1), .unset] [])) tg → Steps p.tables e below (s₁.setTop (entryFrame m #[(.int p1)] 2)) tg := fun tg kq => castTop (ef_I_2 m p1) kq
  obtain ⟨T101, X101, e101, st101⟩ := getS2 X0 hx hZ hown (host := "") (Or.inl (wi hw 5 rfl)) Via.refl e0 (S_PENDING.ext O0.2) (g := (mkF m 12 #[.val (.int p1), .val (.int (irm (p1 &&& (2147483647 : Int32)) (9 : Int32)))] [])) rfl (hb hby d1_12)
  obtain ⟨fs, hr, hrun, hended, hW, hsame⟩ := X101.leave (v := some (.ref w)) (fun h => by rw [Bd.returns] at h; cases h)
  refine ⟨_, _, pre0 _ ?_, hrun, hended, _, _, rfl, ?_, ⟨_, rfl⟩, hW, hsame.mono (by decide) (by decide)⟩
  · show Steps p.tables e below (s₁.setTop (mkF m 0 #[.val (.int p1), .unset] [])) _
    refine XS.iloadN X0.here hx rfl (hb hby d1_0) rfl ?_
    show Steps p.tables e below (s₁.setTop (mkF m 1 #[.val (.int p1), .unset] [(.int p1)])) _
    refine X0.ldcInt hx hown (mvT hZ (wi hw 4 rfl)) (g := (mkF m 1 #[.val (.int p1), .unset] [(.int p1)])) rfl (hb hby d1_1) _ ?_
    show Steps p.tables e below (s₁.setTop (mkF m 3 #[.val (.int p1), .unset] [(.int (2147483647 : Int32)), (.int p1)])) _
    refine XS.iand X0.here hx rfl (hb hby d1_3) rfl ?_
    show Steps p.tables e below (s₁.setTop (mkF m 4 #[.val (.int p1), .unset] [(.int (p1 &&& (2147483647 : Int32)))])) _
    refine XS.bipush X0.here hx rfl (hb hby d1_4) ?_
    show Steps p.tables e below (s₁.setTop (mkF m 6 #[.val (.int p1), .unset] [(.int (9 : Int32)), (.int (p1 &&& (2147483647 : Int32)))])) _
    refine XS.irem X0.here hx rfl (hb hby d1_6) rfl (by decide) ?_
    show Steps p.tables e below (s₁.setTop (mkF m 7 #[.val (.int p1), .unset] [(.int (irm (p1 &&& (2147483647 : Int32)) (9 : Int32)))])) _
    refine XS.istoreN X0.here hx rfl (hb hby d1_7) rfl (l' := #[.val (.int p1), .val (.int (irm (p1 &&& (2147483647 : Int32)) (9 : Int32)))]) rfl ?_
    show Steps p.tables e below (s₁.setTop (mkF m 8 #[.val (.int p1), .val (.int (irm (p1 &&& (2147483647 : Int32)) (9 : Int32)))] [])) _
    refine XS.iloadN X0.here hx rfl (hb hby d1_8) rfl ?_
    show Steps p.tables e below (s₁.setTop (mkF m 9 #[.val (.int p1), .val (.int (irm (p1 &&& (2147483647 : Int32)) (9 : Int32)))] [(.int (irm (p1 &&& (2147483647 : Int32)) (9 : Int32)))])) _
    refine XS.ifNo X0.here hx rfl (hb hby d1_9) rfl ((if0 _ _).trans (teq hc9).2) ?_
    show Steps p.tables e below (s₁.setTop (mkF m 12 #[.val (.int p1), .val (.int (irm (p1 &&& (2147483647 : Int32)) (9 : Int32)))] [])) _
    refine st101 _ ?_
    show Steps p.tables e below (T101.setTop (mkF m 15 #[.val (.int p1), .val (.int (irm (p1 &&& (2147483647 : Int32)) (9 : Int32)))] [(.ref w)])) _
    jvm_step X101.here [X101.here.top, hx, (hb hby d1_15), X101.method', Bd.returns, Value.isRef, FieldType.isReference]
    first | (intro acts; rw [hr _ acts rfl rfl rfl]) | rw [hr _ _ rfl rfl rfl]
    exact Steps.refl _
  · show QP (.ref w) h0 n0 _ T101.heap _
    rw [e101]
    exact ⟨rfl, N0, rfl⟩
theorem d1_16 : decode method_2_code 16 = .ok (.iload_n 1, 1) := by decide +kernel
theorem d1_17 : decode method_2_code 17 = .ok (.iconst 1, 1) := by decide +kernel
theorem d1_18 : decode method_2_code 18 = .ok (.if_icmp .ne 7, 3) := by decide +kernel
theorem d1_21 : decode method_2_code 21 = .ok (.getstatic 14, 3) := by decide +kernel
theorem d1_24 : decode method_2_code 24 = .ok (.areturn, 1) := by decide +kernel
set_option maxRecDepth 65536 in
set_option maxHeartbeats 40000000 in
theorem rm1_1 (l : Launch) (Z : State) (a0 : Array Value) (hw : ∀ d ∈ tables_1, d.before a0 Z = true) (ws : List Jvm.Cond) (p1 : Int32) (w : Addr) (h0 : Heap) (n0 : Nat) (O0 : Old Z n0 h0) (S_CONFIRMING : Sta Z Z.heap "com/example/postback/postback/PaymentStatus" "CONFIRMING" "Lcom/example/postback/postback/PaymentStatus;" (.ref w)) (hc9 : ¬ ((irm (p1 &&& (2147483647 : Int32)) (9 : Int32)) = (0 : Int32))) (hc18 : (irm (p1 &&& (2147483647 : Int32)) (9 : Int32)) = (1 : Int32)) :
    MetFree l (⟨"com/example/postback/postback/BuilderStatusPinLaw", "pick", "(I)Lcom/example/postback/postback/PaymentStatus;"⟩ : MethodName) (head1 (Jvm.Cond.code (⟨"com/example/postback/postback/BuilderStatusPinLaw", "pick", "(I)Lcom/example/postback/postback/PaymentStatus;"⟩ : MethodName) method_2_code 2 (some (.object "com/example/postback/postback/PaymentStatus")) :: ws) ({ frames := 0, cells := 0, slots := 0, locals := 0 } : Room)) (fun a_ U => a_ = #[(.int p1)] ∧ Z.Warmed39 U.vm ∧ U.heap = h0) (fun _ _ _ _ _ => True) (fun _ U o U' => ∃ v L, o = .returned v ∧ QP (.ref w) h0 n0 v U'.heap L ∧ FrameEnd U o U' L ({ frames := 0, cells := 0, slots := 0, locals := 0 } : Room).cells ({ frames := 0, cells := 0, slots := 0, locals := 0 } : Room).slots) := by
  refine MetFree.of_bodySF (plainFor_of_name pn_0) hisR ?_
  intro p e s m args below meth c s₁ Bd hml0 hP hK
  obtain ⟨rfl, hZ, hh⟩ := hP
  have hx := Bd.exec
  have hby := Bd.bytes
  have hml : c.maxLocals = 2 := hml0
  have hown : s.vm.findClass "com/example/postback/postback/BuilderStatusPinLaw" = some m.cls := findClass_of_methodNamed Bd.named
  have hnm := (name_of_methodNamed Bd.named Bd.method).1
  have X0 : Stand p l e ({ frames := 0, cells := 0, slots := 0, locals := 0 } : Room) s m #[(.int p1)] below meth c s₁ [] 0 0 := Stand.of_body Bd
  have e0 : s₁.heap = h0 := by rw [← hh, Bd.state]; rfl
  have N0 := Fr.nil n0
  have pre0 : ∀ tg, Steps p.tables e below (s₁.setTop (mkF m 0 #[.val (.int p1), .unset] [])) tg → Steps p.tables e below (s₁.setTop (entryFrame m #[(.int p1)] 2)) tg := fun tg kq => castTop (ef_I_2 m p1) kq
  obtain ⟨T101, X101, e101, st101⟩ := getS2 X0 hx hZ hown (host := "") (Or.inl (wi hw 108 rfl)) Via.refl e0 (S_CONFIRMING.ext O0.2) (g := (mkF m 21 #[.val (.int p1), .val (.int (irm (p1 &&& (2147483647 : Int32)) (9 : Int32)))] [])) rfl (hb hby d1_21)
  obtain ⟨fs, hr, hrun, hended, hW, hsame⟩ := X101.leave (v := some (.ref w)) (fun h => by rw [Bd.returns] at h; cases h)
  refine ⟨_, _, pre0 _ ?_, hrun, hended, _, _, rfl, ?_, ⟨_, rfl⟩, hW, hsame.mono (by decide) (by decide)⟩
  · show Steps p.tables e below (s₁.setTop (mkF m 0 #[.val (.int p1), .unset] [])) _
    refine XS.iloadN X0.here hx rfl (hb hby d1_0) rfl ?_
    show Steps p.tables e below (s₁.setTop (mkF m 1 #[.val (.int p1), .unset] [(.int p1)])) _
    refine X0.ldcInt hx hown (mvT hZ (wi hw 4 rfl)) (g := (mkF m 1 #[.val (.int p1), .unset] [(.int p1)])) rfl (hb hby d1_1) _ ?_
    show Steps p.tables e below (s₁.setTop (mkF m 3 #[.val (.int p1), .unset] [(.int (2147483647 : Int32)), (.int p1)])) _
    refine XS.iand X0.here hx rfl (hb hby d1_3) rfl ?_
    show Steps p.tables e below (s₁.setTop (mkF m 4 #[.val (.int p1), .unset] [(.int (p1 &&& (2147483647 : Int32)))])) _
    refine XS.bipush X0.here hx rfl (hb hby d1_4) ?_
    show Steps p.tables e below (s₁.setTop (mkF m 6 #[.val (.int p1), .unset] [(.int (9 : Int32)), (.int (p1 &&& (2147483647 : Int32)))])) _
    refine XS.irem X0.here hx rfl (hb hby d1_6) rfl (by decide) ?_
    show Steps p.tables e below (s₁.setTop (mkF m 7 #[.val (.int p1), .unset] [(.int (irm (p1 &&& (2147483647 : Int32)) (9 : Int32)))])) _
    refine XS.istoreN X0.here hx rfl (hb hby d1_7) rfl (l' := #[.val (.int p1), .val (.int (irm (p1 &&& (2147483647 : Int32)) (9 : Int32)))]) rfl ?_
    show Steps p.tables e below (s₁.setTop (mkF m 8 #[.val (.int p1), .val (.int (irm (p1 &&& (2147483647 : Int32)) (9 : Int32)))] [])) _
    refine XS.iloadN X0.here hx rfl (hb hby d1_8) rfl ?_
    show Steps p.tables e below (s₁.setTop (mkF m 9 #[.val (.int p1), .val (.int (irm (p1 &&& (2147483647 : Int32)) (9 : Int32)))] [(.int (irm (p1 &&& (2147483647 : Int32)) (9 : Int32)))])) _
    refine XS.ifYes X0.here hx rfl (pc0 := 9) (pc' := 16) rfl (hb hby d1_9) rfl ((if0 _ _).trans (feq hc9).2) (by decide) (by decide) ?_
    show Steps p.tables e below (s₁.setTop (mkF m 16 #[.val (.int p1), .val (.int (irm (p1 &&& (2147483647 : Int32)) (9 : Int32)))] [])) _
    refine XS.iloadN X0.here hx rfl (hb hby d1_16) rfl ?_
    show Steps p.tables e below (s₁.setTop (mkF m 17 #[.val (.int p1), .val (.int (irm (p1 &&& (2147483647 : Int32)) (9 : Int32)))] [(.int (irm (p1 &&& (2147483647 : Int32)) (9 : Int32)))])) _
    refine XS.iconst X0.here hx rfl (hb hby d1_17) ?_
    show Steps p.tables e below (s₁.setTop (mkF m 18 #[.val (.int p1), .val (.int (irm (p1 &&& (2147483647 : Int32)) (9 : Int32)))] [(.int (1 : Int32)), (.int (irm (p1 &&& (2147483647 : Int32)) (9 : Int32)))])) _
    refine XS.icmpNo X0.here hx rfl (hb hby d1_18) rfl (teq hc18).2 ?_
    show Steps p.tables e below (s₁.setTop (mkF m 21 #[.val (.int p1), .val (.int (irm (p1 &&& (2147483647 : Int32)) (9 : Int32)))] [])) _
    refine st101 _ ?_
    show Steps p.tables e below (T101.setTop (mkF m 24 #[.val (.int p1), .val (.int (irm (p1 &&& (2147483647 : Int32)) (9 : Int32)))] [(.ref w)])) _
    jvm_step X101.here [X101.here.top, hx, (hb hby d1_24), X101.method', Bd.returns, Value.isRef, FieldType.isReference]
    first | (intro acts; rw [hr _ acts rfl rfl rfl]) | rw [hr _ _ rfl rfl rfl]
    exact Steps.refl _
  · show QP (.ref w) h0 n0 _ T101.heap _
    rw [e101]
    exact ⟨rfl, N0, rfl⟩
theorem d1_25 : decode method_2_code 25 = .ok (.iload_n 1, 1) := by decide +kernel
theorem d1_26 : decode method_2_code 26 = .ok (.iconst 2, 1) := by decide +kernel
theorem d1_27 : decode method_2_code 27 = .ok (.if_icmp .ne 7, 3) := by decide +kernel
theorem d1_30 : decode method_2_code 30 = .ok (.getstatic 17, 3) := by decide +kernel
theorem d1_33 : decode method_2_code 33 = .ok (.areturn, 1) := by decide +kernel
set_option maxRecDepth 65536 in
set_option maxHeartbeats 40000000 in
theorem rm1_2 (l : Launch) (Z : State) (a0 : Array Value) (hw : ∀ d ∈ tables_1, d.before a0 Z = true) (ws : List Jvm.Cond) (p1 : Int32) (w : Addr) (h0 : Heap) (n0 : Nat) (O0 : Old Z n0 h0) (S_PAID : Sta Z Z.heap "com/example/postback/postback/PaymentStatus" "PAID" "Lcom/example/postback/postback/PaymentStatus;" (.ref w)) (hc9 : ¬ ((irm (p1 &&& (2147483647 : Int32)) (9 : Int32)) = (0 : Int32))) (hc18 : ¬ ((irm (p1 &&& (2147483647 : Int32)) (9 : Int32)) = (1 : Int32))) (hc27 : (irm (p1 &&& (2147483647 : Int32)) (9 : Int32)) = (2 : Int32)) :
    MetFree l (⟨"com/example/postback/postback/BuilderStatusPinLaw", "pick", "(I)Lcom/example/postback/postback/PaymentStatus;"⟩ : MethodName) (head1 (Jvm.Cond.code (⟨"com/example/postback/postback/BuilderStatusPinLaw", "pick", "(I)Lcom/example/postback/postback/PaymentStatus;"⟩ : MethodName) method_2_code 2 (some (.object "com/example/postback/postback/PaymentStatus")) :: ws) ({ frames := 0, cells := 0, slots := 0, locals := 0 } : Room)) (fun a_ U => a_ = #[(.int p1)] ∧ Z.Warmed39 U.vm ∧ U.heap = h0) (fun _ _ _ _ _ => True) (fun _ U o U' => ∃ v L, o = .returned v ∧ QP (.ref w) h0 n0 v U'.heap L ∧ FrameEnd U o U' L ({ frames := 0, cells := 0, slots := 0, locals := 0 } : Room).cells ({ frames := 0, cells := 0, slots := 0, locals := 0 } : Room).slots) := by
  refine MetFree.of_bodySF (plainFor_of_name pn_0) hisR ?_
  intro p e s m args below meth c s₁ Bd hml0 hP hK
  obtain ⟨rfl, hZ, hh⟩ := hP
  have hx := Bd.exec
  have hby := Bd.bytes
  have hml : c.maxLocals = 2 := hml0
  have hown : s.vm.findClass "com/example/postback/postback/BuilderStatusPinLaw" = some m.cls := findClass_of_methodNamed Bd.named
  have hnm := (name_of_methodNamed Bd.named Bd.method).1
  have X0 : Stand p l e ({ frames := 0, cells := 0, slots := 0, locals := 0 } : Room) s m #[(.int p1)] below meth c s₁ [] 0 0 := Stand.of_body Bd
  have e0 : s₁.heap = h0 := by rw [← hh, Bd.state]; rfl
  have N0 := Fr.nil n0
  have pre0 : ∀ tg, Steps p.tables e below (s₁.setTop (mkF m 0 #[.val (.int p1), .unset] [])) tg → Steps p.tables e below (s₁.setTop (entryFrame m #[(.int p1)] 2)) tg := fun tg kq => castTop (ef_I_2 m p1) kq
  obtain ⟨T101, X101, e101, st101⟩ := getS2 X0 hx hZ hown (host := "") (Or.inl (wi hw 110 rfl)) Via.refl e0 (S_PAID.ext O0.2) (g := (mkF m 30 #[.val (.int p1), .val (.int (irm (p1 &&& (2147483647 : Int32)) (9 : Int32)))] [])) rfl (hb hby d1_30)
  obtain ⟨fs, hr, hrun, hended, hW, hsame⟩ := X101.leave (v := some (.ref w)) (fun h => by rw [Bd.returns] at h; cases h)
  refine ⟨_, _, pre0 _ ?_, hrun, hended, _, _, rfl, ?_, ⟨_, rfl⟩, hW, hsame.mono (by decide) (by decide)⟩
  · show Steps p.tables e below (s₁.setTop (mkF m 0 #[.val (.int p1), .unset] [])) _
    refine XS.iloadN X0.here hx rfl (hb hby d1_0) rfl ?_
    show Steps p.tables e below (s₁.setTop (mkF m 1 #[.val (.int p1), .unset] [(.int p1)])) _
    refine X0.ldcInt hx hown (mvT hZ (wi hw 4 rfl)) (g := (mkF m 1 #[.val (.int p1), .unset] [(.int p1)])) rfl (hb hby d1_1) _ ?_
    show Steps p.tables e below (s₁.setTop (mkF m 3 #[.val (.int p1), .unset] [(.int (2147483647 : Int32)), (.int p1)])) _
    refine XS.iand X0.here hx rfl (hb hby d1_3) rfl ?_
    show Steps p.tables e below (s₁.setTop (mkF m 4 #[.val (.int p1), .unset] [(.int (p1 &&& (2147483647 : Int32)))])) _
    refine XS.bipush X0.here hx rfl (hb hby d1_4) ?_
    show Steps p.tables e below (s₁.setTop (mkF m 6 #[.val (.int p1), .unset] [(.int (9 : Int32)), (.int (p1 &&& (2147483647 : Int32)))])) _
    refine XS.irem X0.here hx rfl (hb hby d1_6) rfl (by decide) ?_
    show Steps p.tables e below (s₁.setTop (mkF m 7 #[.val (.int p1), .unset] [(.int (irm (p1 &&& (2147483647 : Int32)) (9 : Int32)))])) _
    refine XS.istoreN X0.here hx rfl (hb hby d1_7) rfl (l' := #[.val (.int p1), .val (.int (irm (p1 &&& (2147483647 : Int32)) (9 : Int32)))]) rfl ?_
    show Steps p.tables e below (s₁.setTop (mkF m 8 #[.val (.int p1), .val (.int (irm (p1 &&& (2147483647 : Int32)) (9 : Int32)))] [])) _
    refine XS.iloadN X0.here hx rfl (hb hby d1_8) rfl ?_
    show Steps p.tables e below (s₁.setTop (mkF m 9 #[.val (.int p1), .val (.int (irm (p1 &&& (2147483647 : Int32)) (9 : Int32)))] [(.int (irm (p1 &&& (2147483647 : Int32)) (9 : Int32)))])) _
    refine XS.ifYes X0.here hx rfl (pc0 := 9) (pc' := 16) rfl (hb hby d1_9) rfl ((if0 _ _).trans (feq hc9).2) (by decide) (by decide) ?_
    show Steps p.tables e below (s₁.setTop (mkF m 16 #[.val (.int p1), .val (.int (irm (p1 &&& (2147483647 : Int32)) (9 : Int32)))] [])) _
    refine XS.iloadN X0.here hx rfl (hb hby d1_16) rfl ?_
    show Steps p.tables e below (s₁.setTop (mkF m 17 #[.val (.int p1), .val (.int (irm (p1 &&& (2147483647 : Int32)) (9 : Int32)))] [(.int (irm (p1 &&& (2147483647 : Int32)) (9 : Int32)))])) _
    refine XS.iconst X0.here hx rfl (hb hby d1_17) ?_
    show Steps p.tables e below (s₁.setTop (mkF m 18 #[.val (.int p1), .val (.int (irm (p1 &&& (2147483647 : Int32)) (9 : Int32)))] [(.int (1 : Int32)), (.int (irm (p1 &&& (2147483647 : Int32)) (9 : Int32)))])) _
    refine XS.icmpYes X0.here hx rfl (pc0 := 18) (pc' := 25) rfl (hb hby d1_18) rfl (feq hc18).2 (by decide) (by decide) ?_
    show Steps p.tables e below (s₁.setTop (mkF m 25 #[.val (.int p1), .val (.int (irm (p1 &&& (2147483647 : Int32)) (9 : Int32)))] [])) _
    refine XS.iloadN X0.here hx rfl (hb hby d1_25) rfl ?_
    show Steps p.tables e below (s₁.setTop (mkF m 26 #[.val (.int p1), .val (.int (irm (p1 &&& (2147483647 : Int32)) (9 : Int32)))] [(.int (irm (p1 &&& (2147483647 : Int32)) (9 : Int32)))])) _
    refine XS.iconst X0.here hx rfl (hb hby d1_26) ?_
    show Steps p.tables e below (s₁.setTop (mkF m 27 #[.val (.int p1), .val (.int (irm (p1 &&& (2147483647 : Int32)) (9 : Int32)))] [(.int (2 : Int32)), (.int (irm (p1 &&& (2147483647 : Int32)) (9 : Int32)))])) _
    refine XS.icmpNo X0.here hx rfl (hb hby d1_27) rfl (teq hc27).2 ?_
    show Steps p.tables e below (s₁.setTop (mkF m 30 #[.val (.int p1), .val (.int (irm (p1 &&& (2147483647 : Int32)) (9 : Int32)))] [])) _
    refine st101 _ ?_
    show Steps p.tables e below (T101.setTop (mkF m 33 #[.val (.int p1), .val (.int (irm (p1 &&& (2147483647 : Int32)) (9 : Int32)))] [(.ref w)])) _
    jvm_step X101.here [X101.here.top, hx, (hb hby d1_33), X101.method', Bd.returns, Value.isRef, FieldType.isReference]
    first | (intro acts; rw [hr _ acts rfl rfl rfl]) | rw [hr _ _ rfl rfl rfl]
    exact Steps.refl _
  · show QP (.ref w) h0 n0 _ T101.heap _
    rw [e101]
    exact ⟨rfl, N0, rfl⟩
theorem d1_34 : decode method_2_code 34 = .ok (.iload_n 1, 1) := by decide +kernel
theorem d1_35 : decode method_2_code 35 = .ok (.iconst 3, 1) := by decide +kernel
theorem d1_36 : decode method_2_code 36 = .ok (.if_icmp .ne 7, 3) := by decide +kernel
theorem d1_39 : decode method_2_code 39 = .ok (.getstatic 20, 3) := by decide +kernel
theorem d1_42 : decode method_2_code 42 = .ok (.areturn, 1) := by decide +kernel
set_option maxRecDepth 65536 in
set_option maxHeartbeats 40000000 in
theorem rm1_3 (l : Launch) (Z : State) (a0 : Array Value) (hw : ∀ d ∈ tables_1, d.before a0 Z = true) (ws : List Jvm.Cond) (p1 : Int32) (w : Addr) (h0 : Heap) (n0 : Nat) (O0 : Old Z n0 h0) (S_MISMATCH : Sta Z Z.heap "com/example/postback/postback/PaymentStatus" "MISMATCH" "Lcom/example/postback/postback/PaymentStatus;" (.ref w)) (hc9 : ¬ ((irm (p1 &&& (2147483647 : Int32)) (9 : Int32)) = (0 : Int32))) (hc18 : ¬ ((irm (p1 &&& (2147483647 : Int32)) (9 : Int32)) = (1 : Int32))) (hc27 : ¬ ((irm (p1 &&& (2147483647 : Int32)) (9 : Int32)) = (2 : Int32))) (hc36 : (irm (p1 &&& (2147483647 : Int32)) (9 : Int32)) = (3 : Int32)) :
    MetFree l (⟨"com/example/postback/postback/BuilderStatusPinLaw", "pick", "(I)Lcom/example/postback/postback/PaymentStatus;"⟩ : MethodName) (head1 (Jvm.Cond.code (⟨"com/example/postback/postback/BuilderStatusPinLaw", "pick", "(I)Lcom/example/postback/postback/PaymentStatus;"⟩ : MethodName) method_2_code 2 (some (.object "com/example/postback/postback/PaymentStatus")) :: ws) ({ frames := 0, cells := 0, slots := 0, locals := 0 } : Room)) (fun a_ U => a_ = #[(.int p1)] ∧ Z.Warmed39 U.vm ∧ U.heap = h0) (fun _ _ _ _ _ => True) (fun _ U o U' => ∃ v L, o = .returned v ∧ QP (.ref w) h0 n0 v U'.heap L ∧ FrameEnd U o U' L ({ frames := 0, cells := 0, slots := 0, locals := 0 } : Room).cells ({ frames := 0, cells := 0, slots := 0, locals := 0 } : Room).slots) := by
  refine MetFree.of_bodySF (plainFor_of_name pn_0) hisR ?_
  intro p e s m args below meth c s₁ Bd hml0 hP hK
  obtain ⟨rfl, hZ, hh⟩ := hP
  have hx := Bd.exec
  have hby := Bd.bytes
  have hml : c.maxLocals = 2 := hml0
  have hown : s.vm.findClass "com/example/postback/postback/BuilderStatusPinLaw" = some m.cls := findClass_of_methodNamed Bd.named
  have hnm := (name_of_methodNamed Bd.named Bd.method).1
  have X0 : Stand p l e ({ frames := 0, cells := 0, slots := 0, locals := 0 } : Room) s m #[(.int p1)] below meth c s₁ [] 0 0 := Stand.of_body Bd
  have e0 : s₁.heap = h0 := by rw [← hh, Bd.state]; rfl
  have N0 := Fr.nil n0
  have pre0 : ∀ tg, Steps p.tables e below (s₁.setTop (mkF m 0 #[.val (.int p1), .unset] [])) tg → Steps p.tables e below (s₁.setTop (entryFrame m #[(.int p1)] 2)) tg := fun tg kq => castTop (ef_I_2 m p1) kq
  obtain ⟨T101, X101, e101, st101⟩ := getS2 X0 hx hZ hown (host := "") (Or.inl (wi hw 8 rfl)) Via.refl e0 (S_MISMATCH.ext O0.2) (g := (mkF m 39 #[.val (.int p1), .val (.int (irm (p1 &&& (2147483647 : Int32)) (9 : Int32)))] [])) rfl (hb hby d1_39)
  obtain ⟨fs, hr, hrun, hended, hW, hsame⟩ := X101.leave (v := some (.ref w)) (fun h => by rw [Bd.returns] at h; cases h)
  refine ⟨_, _, pre0 _ ?_, hrun, hended, _, _, rfl, ?_, ⟨_, rfl⟩, hW, hsame.mono (by decide) (by decide)⟩
  · show Steps p.tables e below (s₁.setTop (mkF m 0 #[.val (.int p1), .unset] [])) _
    refine XS.iloadN X0.here hx rfl (hb hby d1_0) rfl ?_
    show Steps p.tables e below (s₁.setTop (mkF m 1 #[.val (.int p1), .unset] [(.int p1)])) _
    refine X0.ldcInt hx hown (mvT hZ (wi hw 4 rfl)) (g := (mkF m 1 #[.val (.int p1), .unset] [(.int p1)])) rfl (hb hby d1_1) _ ?_
    show Steps p.tables e below (s₁.setTop (mkF m 3 #[.val (.int p1), .unset] [(.int (2147483647 : Int32)), (.int p1)])) _
    refine XS.iand X0.here hx rfl (hb hby d1_3) rfl ?_
    show Steps p.tables e below (s₁.setTop (mkF m 4 #[.val (.int p1), .unset] [(.int (p1 &&& (2147483647 : Int32)))])) _
    refine XS.bipush X0.here hx rfl (hb hby d1_4) ?_
    show Steps p.tables e below (s₁.setTop (mkF m 6 #[.val (.int p1), .unset] [(.int (9 : Int32)), (.int (p1 &&& (2147483647 : Int32)))])) _
    refine XS.irem X0.here hx rfl (hb hby d1_6) rfl (by decide) ?_
    show Steps p.tables e below (s₁.setTop (mkF m 7 #[.val (.int p1), .unset] [(.int (irm (p1 &&& (2147483647 : Int32)) (9 : Int32)))])) _
    refine XS.istoreN X0.here hx rfl (hb hby d1_7) rfl (l' := #[.val (.int p1), .val (.int (irm (p1 &&& (2147483647 : Int32)) (9 : Int32)))]) rfl ?_
    show Steps p.tables e below (s₁.setTop (mkF m 8 #[.val (.int p1), .val (.int (irm (p1 &&& (2147483647 : Int32)) (9 : Int32)))] [])) _
    refine XS.iloadN X0.here hx rfl (hb hby d1_8) rfl ?_
    show Steps p.tables e below (s₁.setTop (mkF m 9 #[.val (.int p1), .val (.int (irm (p1 &&& (2147483647 : Int32)) (9 : Int32)))] [(.int (irm (p1 &&& (2147483647 : Int32)) (9 : Int32)))])) _
    refine XS.ifYes X0.here hx rfl (pc0 := 9) (pc' := 16) rfl (hb hby d1_9) rfl ((if0 _ _).trans (feq hc9).2) (by decide) (by decide) ?_
    show Steps p.tables e below (s₁.setTop (mkF m 16 #[.val (.int p1), .val (.int (irm (p1 &&& (2147483647 : Int32)) (9 : Int32)))] [])) _
    refine XS.iloadN X0.here hx rfl (hb hby d1_16) rfl ?_
    show Steps p.tables e below (s₁.setTop (mkF m 17 #[.val (.int p1), .val (.int (irm (p1 &&& (2147483647 : Int32)) (9 : Int32)))] [(.int (irm (p1 &&& (2147483647 : Int32)) (9 : Int32)))])) _
    refine XS.iconst X0.here hx rfl (hb hby d1_17) ?_
    show Steps p.tables e below (s₁.setTop (mkF m 18 #[.val (.int p1), .val (.int (irm (p1 &&& (2147483647 : Int32)) (9 : Int32)))] [(.int (1 : Int32)), (.int (irm (p1 &&& (2147483647 : Int32)) (9 : Int32)))])) _
    refine XS.icmpYes X0.here hx rfl (pc0 := 18) (pc' := 25) rfl (hb hby d1_18) rfl (feq hc18).2 (by decide) (by decide) ?_
    show Steps p.tables e below (s₁.setTop (mkF m 25 #[.val (.int p1), .val (.int (irm (p1 &&& (2147483647 : Int32)) (9 : Int32)))] [])) _
    refine XS.iloadN X0.here hx rfl (hb hby d1_25) rfl ?_
    show Steps p.tables e below (s₁.setTop (mkF m 26 #[.val (.int p1), .val (.int (irm (p1 &&& (2147483647 : Int32)) (9 : Int32)))] [(.int (irm (p1 &&& (2147483647 : Int32)) (9 : Int32)))])) _
    refine XS.iconst X0.here hx rfl (hb hby d1_26) ?_
    show Steps p.tables e below (s₁.setTop (mkF m 27 #[.val (.int p1), .val (.int (irm (p1 &&& (2147483647 : Int32)) (9 : Int32)))] [(.int (2 : Int32)), (.int (irm (p1 &&& (2147483647 : Int32)) (9 : Int32)))])) _
    refine XS.icmpYes X0.here hx rfl (pc0 := 27) (pc' := 34) rfl (hb hby d1_27) rfl (feq hc27).2 (by decide) (by decide) ?_
    show Steps p.tables e below (s₁.setTop (mkF m 34 #[.val (.int p1), .val (.int (irm (p1 &&& (2147483647 : Int32)) (9 : Int32)))] [])) _
    refine XS.iloadN X0.here hx rfl (hb hby d1_34) rfl ?_
    show Steps p.tables e below (s₁.setTop (mkF m 35 #[.val (.int p1), .val (.int (irm (p1 &&& (2147483647 : Int32)) (9 : Int32)))] [(.int (irm (p1 &&& (2147483647 : Int32)) (9 : Int32)))])) _
    refine XS.iconst X0.here hx rfl (hb hby d1_35) ?_
    show Steps p.tables e below (s₁.setTop (mkF m 36 #[.val (.int p1), .val (.int (irm (p1 &&& (2147483647 : Int32)) (9 : Int32)))] [(.int (3 : Int32)), (.int (irm (p1 &&& (2147483647 : Int32)) (9 : Int32)))])) _
    refine XS.icmpNo X0.here hx rfl (hb hby d1_36) rfl (teq hc36).2 ?_
    show Steps p.tables e below (s₁.setTop (mkF m 39 #[.val (.int p1), .val (.int (irm (p1 &&& (2147483647 : Int32)) (9 : Int32)))] [])) _
    refine st101 _ ?_
    show Steps p.tables e below (T101.setTop (mkF m 42 #[.val (.int p1), .val (.int (irm (p1 &&& (2147483647 : Int32)) (9 : Int32)))] [(.ref w)])) _
    jvm_step X101.here [X101.here.top, hx, (hb hby d1_42), X101.method', Bd.returns, Value.isRef, FieldType.isReference]
    first | (intro acts; rw [hr _ acts rfl rfl rfl]) | rw [hr _ _ rfl rfl rfl]
    exact Steps.refl _
  · show QP (.ref w) h0 n0 _ T101.heap _
    rw [e101]
    exact ⟨rfl, N0, rfl⟩
theorem d1_43 : decode method_2_code 43 = .ok (.iload_n 1, 1) := by decide +kernel
theorem d1_44 : decode method_2_code 44 = .ok (.iconst 4, 1) := by decide +kernel
theorem d1_45 : decode method_2_code 45 = .ok (.if_icmp .ne 7, 3) := by decide +kernel
theorem d1_48 : decode method_2_code 48 = .ok (.getstatic 23, 3) := by decide +kernel
theorem d1_51 : decode method_2_code 51 = .ok (.areturn, 1) := by decide +kernel
set_option maxRecDepth 65536 in
set_option maxHeartbeats 40000000 in
theorem rm1_4 (l : Launch) (Z : State) (a0 : Array Value) (hw : ∀ d ∈ tables_1, d.before a0 Z = true) (ws : List Jvm.Cond) (p1 : Int32) (w : Addr) (h0 : Heap) (n0 : Nat) (O0 : Old Z n0 h0) (S_EXPIRED : Sta Z Z.heap "com/example/postback/postback/PaymentStatus" "EXPIRED" "Lcom/example/postback/postback/PaymentStatus;" (.ref w)) (hc9 : ¬ ((irm (p1 &&& (2147483647 : Int32)) (9 : Int32)) = (0 : Int32))) (hc18 : ¬ ((irm (p1 &&& (2147483647 : Int32)) (9 : Int32)) = (1 : Int32))) (hc27 : ¬ ((irm (p1 &&& (2147483647 : Int32)) (9 : Int32)) = (2 : Int32))) (hc36 : ¬ ((irm (p1 &&& (2147483647 : Int32)) (9 : Int32)) = (3 : Int32))) (hc45 : (irm (p1 &&& (2147483647 : Int32)) (9 : Int32)) = (4 : Int32)) :
    MetFree l (⟨"com/example/postback/postback/BuilderStatusPinLaw", "pick", "(I)Lcom/example/postback/postback/PaymentStatus;"⟩ : MethodName) (head1 (Jvm.Cond.code (⟨"com/example/postback/postback/BuilderStatusPinLaw", "pick", "(I)Lcom/example/postback/postback/PaymentStatus;"⟩ : MethodName) method_2_code 2 (some (.object "com/example/postback/postback/PaymentStatus")) :: ws) ({ frames := 0, cells := 0, slots := 0, locals := 0 } : Room)) (fun a_ U => a_ = #[(.int p1)] ∧ Z.Warmed39 U.vm ∧ U.heap = h0) (fun _ _ _ _ _ => True) (fun _ U o U' => ∃ v L, o = .returned v ∧ QP (.ref w) h0 n0 v U'.heap L ∧ FrameEnd U o U' L ({ frames := 0, cells := 0, slots := 0, locals := 0 } : Room).cells ({ frames := 0, cells := 0, slots := 0, locals := 0 } : Room).slots) := by
  refine MetFree.of_bodySF (plainFor_of_name pn_0) hisR ?_
  intro p e s m args below meth c s₁ Bd hml0 hP hK
  obtain ⟨rfl, hZ, hh⟩ := hP
  have hx := Bd.exec
  have hby := Bd.bytes
  have hml : c.maxLocals = 2 := hml0
  have hown : s.vm.findClass "com/example/postback/postback/BuilderStatusPinLaw" = some m.cls := findClass_of_methodNamed Bd.named
  have hnm := (name_of_methodNamed Bd.named Bd.method).1
  have X0 : Stand p l e ({ frames := 0, cells := 0, slots := 0, locals := 0 } : Room) s m #[(.int p1)] below meth c s₁ [] 0 0 := Stand.of_body Bd
  have e0 : s₁.heap = h0 := by rw [← hh, Bd.state]; rfl
  have N0 := Fr.nil n0
  have pre0 : ∀ tg, Steps p.tables e below (s₁.setTop (mkF m 0 #[.val (.int p1), .unset] [])) tg → Steps p.tables e below (s₁.setTop (entryFrame m #[(.int p1)] 2)) tg := fun tg kq => castTop (ef_I_2 m p1) kq
  obtain ⟨T101, X101, e101, st101⟩ := getS2 X0 hx hZ hown (host := "") (Or.inl (wi hw 119 rfl)) Via.refl e0 (S_EXPIRED.ext O0.2) (g := (mkF m 48 #[.val (.int p1), .val (.int (irm (p1 &&& (2147483647 : Int32)) (9 : Int32)))] [])) rfl (hb hby d1_48)
  obtain ⟨fs, hr, hrun, hended, hW, hsame⟩ := X101.leave (v := some (.ref w)) (fun h => by rw [Bd.returns] at h; cases h)
  refine ⟨_, _, pre0 _ ?_, hrun, hended, _, _, rfl, ?_, ⟨_, rfl⟩, hW, hsame.mono (by decide) (by decide)⟩
  · show Steps p.tables e below (s₁.setTop (mkF m 0 #[.val (.int p1), .unset] [])) _
    refine XS.iloadN X0.here hx rfl (hb hby d1_0) rfl ?_
    show Steps p.tables e below (s₁.setTop (mkF m 1 #[.val (.int p1), .unset] [(.int p1)])) _
    refine X0.ldcInt hx hown (mvT hZ (wi hw 4 rfl)) (g := (mkF m 1 #[.val (.int p1), .unset] [(.int p1)])) rfl (hb hby d1_1) _ ?_
    show Steps p.tables e below (s₁.setTop (mkF m 3 #[.val (.int p1), .unset] [(.int (2147483647 : Int32)), (.int p1)])) _
    refine XS.iand X0.here hx rfl (hb hby d1_3) rfl ?_
    show Steps p.tables e below (s₁.setTop (mkF m 4 #[.val (.int p1), .unset] [(.int (p1 &&& (2147483647 : Int32)))])) _
    refine XS.bipush X0.here hx rfl (hb hby d1_4) ?_
    show Steps p.tables e below (s₁.setTop (mkF m 6 #[.val (.int p1), .unset] [(.int (9 : Int32)), (.int (p1 &&& (2147483647 : Int32)))])) _
    refine XS.irem X0.here hx rfl (hb hby d1_6) rfl (by decide) ?_
    show Steps p.tables e below (s₁.setTop (mkF m 7 #[.val (.int p1), .unset] [(.int (irm (p1 &&& (2147483647 : Int32)) (9 : Int32)))])) _
    refine XS.istoreN X0.here hx rfl (hb hby d1_7) rfl (l' := #[.val (.int p1), .val (.int (irm (p1 &&& (2147483647 : Int32)) (9 : Int32)))]) rfl ?_
    show Steps p.tables e below (s₁.setTop (mkF m 8 #[.val (.int p1), .val (.int (irm (p1 &&& (2147483647 : Int32)) (9 : Int32)))] [])) _
    refine XS.iloadN X0.here hx rfl (hb hby d1_8) rfl ?_
    show Steps p.tables e below (s₁.setTop (mkF m 9 #[.val (.int p1), .val (.int (irm (p1 &&& (2147483647 : Int32)) (9 : Int32)))] [(.int (irm (p1 &&& (2147483647 : Int32)) (9 : Int32)))])) _
    refine XS.ifYes X0.here hx rfl (pc0 := 9) (pc' := 16) rfl (hb hby d1_9) rfl ((if0 _ _).trans (feq hc9).2) (by decide) (by decide) ?_
    show Steps p.tables e below (s₁.setTop (mkF m 16 #[.val (.int p1), .val (.int (irm (p1 &&& (2147483647 : Int32)) (9 : Int32)))] [])) _
    refine XS.iloadN X0.here hx rfl (hb hby d1_16) rfl ?_
    show Steps p.tables e below (s₁.setTop (mkF m 17 #[.val (.int p1), .val (.int (irm (p1 &&& (2147483647 : Int32)) (9 : Int32)))] [(.int (irm (p1 &&& (2147483647 : Int32)) (9 : Int32)))])) _
    refine XS.iconst X0.here hx rfl (hb hby d1_17) ?_
    show Steps p.tables e below (s₁.setTop (mkF m 18 #[.val (.int p1), .val (.int (irm (p1 &&& (2147483647 : Int32)) (9 : Int32)))] [(.int (1 : Int32)), (.int (irm (p1 &&& (2147483647 : Int32)) (9 : Int32)))])) _
    refine XS.icmpYes X0.here hx rfl (pc0 := 18) (pc' := 25) rfl (hb hby d1_18) rfl (feq hc18).2 (by decide) (by decide) ?_
    show Steps p.tables e below (s₁.setTop (mkF m 25 #[.val (.int p1), .val (.int (irm (p1 &&& (2147483647 : Int32)) (9 : Int32)))] [])) _
    refine XS.iloadN X0.here hx rfl (hb hby d1_25) rfl ?_
    show Steps p.tables e below (s₁.setTop (mkF m 26 #[.val (.int p1), .val (.int (irm (p1 &&& (2147483647 : Int32)) (9 : Int32)))] [(.int (irm (p1 &&& (2147483647 : Int32)) (9 : Int32)))])) _
    refine XS.iconst X0.here hx rfl (hb hby d1_26) ?_
    show Steps p.tables e below (s₁.setTop (mkF m 27 #[.val (.int p1), .val (.int (irm (p1 &&& (2147483647 : Int32)) (9 : Int32)))] [(.int (2 : Int32)), (.int (irm (p1 &&& (2147483647 : Int32)) (9 : Int32)))])) _
    refine XS.icmpYes X0.here hx rfl (pc0 := 27) (pc' := 34) rfl (hb hby d1_27) rfl (feq hc27).2 (by decide) (by decide) ?_
    show Steps p.tables e below (s₁.setTop (mkF m 34 #[.val (.int p1), .val (.int (irm (p1 &&& (2147483647 : Int32)) (9 : Int32)))] [])) _
    refine XS.iloadN X0.here hx rfl (hb hby d1_34) rfl ?_
    show Steps p.tables e below (s₁.setTop (mkF m 35 #[.val (.int p1), .val (.int (irm (p1 &&& (2147483647 : Int32)) (9 : Int32)))] [(.int (irm (p1 &&& (2147483647 : Int32)) (9 : Int32)))])) _
    refine XS.iconst X0.here hx rfl (hb hby d1_35) ?_
    show Steps p.tables e below (s₁.setTop (mkF m 36 #[.val (.int p1), .val (.int (irm (p1 &&& (2147483647 : Int32)) (9 : Int32)))] [(.int (3 : Int32)), (.int (irm (p1 &&& (2147483647 : Int32)) (9 : Int32)))])) _
    refine XS.icmpYes X0.here hx rfl (pc0 := 36) (pc' := 43) rfl (hb hby d1_36) rfl (feq hc36).2 (by decide) (by decide) ?_
    show Steps p.tables e below (s₁.setTop (mkF m 43 #[.val (.int p1), .val (.int (irm (p1 &&& (2147483647 : Int32)) (9 : Int32)))] [])) _
    refine XS.iloadN X0.here hx rfl (hb hby d1_43) rfl ?_
    show Steps p.tables e below (s₁.setTop (mkF m 44 #[.val (.int p1), .val (.int (irm (p1 &&& (2147483647 : Int32)) (9 : Int32)))] [(.int (irm (p1 &&& (2147483647 : Int32)) (9 : Int32)))])) _
    refine XS.iconst X0.here hx rfl (hb hby d1_44) ?_
    show Steps p.tables e below (s₁.setTop (mkF m 45 #[.val (.int p1), .val (.int (irm (p1 &&& (2147483647 : Int32)) (9 : Int32)))] [(.int (4 : Int32)), (.int (irm (p1 &&& (2147483647 : Int32)) (9 : Int32)))])) _
    refine XS.icmpNo X0.here hx rfl (hb hby d1_45) rfl (teq hc45).2 ?_
    show Steps p.tables e below (s₁.setTop (mkF m 48 #[.val (.int p1), .val (.int (irm (p1 &&& (2147483647 : Int32)) (9 : Int32)))] [])) _
    refine st101 _ ?_
    show Steps p.tables e below (T101.setTop (mkF m 51 #[.val (.int p1), .val (.int (irm (p1 &&& (2147483647 : Int32)) (9 : Int32)))] [(.ref w)])) _
    jvm_step X101.here [X101.here.top, hx, (hb hby d1_51), X101.method', Bd.returns, Value.isRef, FieldType.isReference]
    first | (intro acts; rw [hr _ acts rfl rfl rfl]) | rw [hr _ _ rfl rfl rfl]
    exact Steps.refl _
  · show QP (.ref w) h0 n0 _ T101.heap _
    rw [e101]
    exact ⟨rfl, N0, rfl⟩
theorem d1_52 : decode method_2_code 52 = .ok (.iload_n 1, 1) := by decide +kernel
theorem d1_53 : decode method_2_code 53 = .ok (.iconst 5, 1) := by decide +kernel
theorem d1_54 : decode method_2_code 54 = .ok (.if_icmp .ne 7, 3) := by decide +kernel
theorem d1_57 : decode method_2_code 57 = .ok (.getstatic 26, 3) := by decide +kernel
theorem d1_60 : decode method_2_code 60 = .ok (.areturn, 1) := by decide +kernel
set_option maxRecDepth 65536 in
set_option maxHeartbeats 40000000 in
theorem rm1_5 (l : Launch) (Z : State) (a0 : Array Value) (hw : ∀ d ∈ tables_1, d.before a0 Z = true) (ws : List Jvm.Cond) (p1 : Int32) (w : Addr) (h0 : Heap) (n0 : Nat) (O0 : Old Z n0 h0) (S_FAILED : Sta Z Z.heap "com/example/postback/postback/PaymentStatus" "FAILED" "Lcom/example/postback/postback/PaymentStatus;" (.ref w)) (hc9 : ¬ ((irm (p1 &&& (2147483647 : Int32)) (9 : Int32)) = (0 : Int32))) (hc18 : ¬ ((irm (p1 &&& (2147483647 : Int32)) (9 : Int32)) = (1 : Int32))) (hc27 : ¬ ((irm (p1 &&& (2147483647 : Int32)) (9 : Int32)) = (2 : Int32))) (hc36 : ¬ ((irm (p1 &&& (2147483647 : Int32)) (9 : Int32)) = (3 : Int32))) (hc45 : ¬ ((irm (p1 &&& (2147483647 : Int32)) (9 : Int32)) = (4 : Int32))) (hc54 : (irm (p1 &&& (2147483647 : Int32)) (9 : Int32)) = (5 : Int32)) :
    MetFree l (⟨"com/example/postback/postback/BuilderStatusPinLaw", "pick", "(I)Lcom/example/postback/postback/PaymentStatus;"⟩ : MethodName) (head1 (Jvm.Cond.code (⟨"com/example/postback/postback/BuilderStatusPinLaw", "pick", "(I)Lcom/example/postback/postback/PaymentStatus;"⟩ : MethodName) method_2_code 2 (some (.object "com/example/postback/postback/PaymentStatus")) :: ws) ({ frames := 0, cells := 0, slots := 0, locals := 0 } : Room)) (fun a_ U => a_ = #[(.int p1)] ∧ Z.Warmed39 U.vm ∧ U.heap = h0) (fun _ _ _ _ _ => True) (fun _ U o U' => ∃ v L, o = .returned v ∧ QP (.ref w) h0 n0 v U'.heap L ∧ FrameEnd U o U' L ({ frames := 0, cells := 0, slots := 0, locals := 0 } : Room).cells ({ frames := 0, cells := 0, slots := 0, locals := 0 } : Room).slots) := by
  refine MetFree.of_bodySF (plainFor_of_name pn_0) hisR ?_
  intro p e s m args below meth c s₁ Bd hml0 hP hK
  obtain ⟨rfl, hZ, hh⟩ := hP
  have hx := Bd.exec
  have hby := Bd.bytes
  have hml : c.maxLocals = 2 := hml0
  have hown : s.vm.findClass "com/example/postback/postback/BuilderStatusPinLaw" = some m.cls := findClass_of_methodNamed Bd.named
  have hnm := (name_of_methodNamed Bd.named Bd.method).1
  have X0 : Stand p l e ({ frames := 0, cells := 0, slots := 0, locals := 0 } : Room) s m #[(.int p1)] below meth c s₁ [] 0 0 := Stand.of_body Bd
  have e0 : s₁.heap = h0 := by rw [← hh, Bd.state]; rfl
  have N0 := Fr.nil n0
  have pre0 : ∀ tg, Steps p.tables e below (s₁.setTop (mkF m 0 #[.val (.int p1), .unset] [])) tg → Steps p.tables e below (s₁.setTop (entryFrame m #[(.int p1)] 2)) tg := fun tg kq => castTop (ef_I_2 m p1) kq
  obtain ⟨T101, X101, e101, st101⟩ := getS2 X0 hx hZ hown (host := "") (Or.inl (wi hw 117 rfl)) Via.refl e0 (S_FAILED.ext O0.2) (g := (mkF m 57 #[.val (.int p1), .val (.int (irm (p1 &&& (2147483647 : Int32)) (9 : Int32)))] [])) rfl (hb hby d1_57)
  obtain ⟨fs, hr, hrun, hended, hW, hsame⟩ := X101.leave (v := some (.ref w)) (fun h => by rw [Bd.returns] at h; cases h)
  refine ⟨_, _, pre0 _ ?_, hrun, hended, _, _, rfl, ?_, ⟨_, rfl⟩, hW, hsame.mono (by decide) (by decide)⟩
  · show Steps p.tables e below (s₁.setTop (mkF m 0 #[.val (.int p1), .unset] [])) _
    refine XS.iloadN X0.here hx rfl (hb hby d1_0) rfl ?_
    show Steps p.tables e below (s₁.setTop (mkF m 1 #[.val (.int p1), .unset] [(.int p1)])) _
    refine X0.ldcInt hx hown (mvT hZ (wi hw 4 rfl)) (g := (mkF m 1 #[.val (.int p1), .unset] [(.int p1)])) rfl (hb hby d1_1) _ ?_
    show Steps p.tables e below (s₁.setTop (mkF m 3 #[.val (.int p1), .unset] [(.int (2147483647 : Int32)), (.int p1)])) _
    refine XS.iand X0.here hx rfl (hb hby d1_3) rfl ?_
    show Steps p.tables e below (s₁.setTop (mkF m 4 #[.val (.int p1), .unset] [(.int (p1 &&& (2147483647 : Int32)))])) _
    refine XS.bipush X0.here hx rfl (hb hby d1_4) ?_
    show Steps p.tables e below (s₁.setTop (mkF m 6 #[.val (.int p1), .unset] [(.int (9 : Int32)), (.int (p1 &&& (2147483647 : Int32)))])) _
    refine XS.irem X0.here hx rfl (hb hby d1_6) rfl (by decide) ?_
    show Steps p.tables e below (s₁.setTop (mkF m 7 #[.val (.int p1), .unset] [(.int (irm (p1 &&& (2147483647 : Int32)) (9 : Int32)))])) _
    refine XS.istoreN X0.here hx rfl (hb hby d1_7) rfl (l' := #[.val (.int p1), .val (.int (irm (p1 &&& (2147483647 : Int32)) (9 : Int32)))]) rfl ?_
    show Steps p.tables e below (s₁.setTop (mkF m 8 #[.val (.int p1), .val (.int (irm (p1 &&& (2147483647 : Int32)) (9 : Int32)))] [])) _
    refine XS.iloadN X0.here hx rfl (hb hby d1_8) rfl ?_
    show Steps p.tables e below (s₁.setTop (mkF m 9 #[.val (.int p1), .val (.int (irm (p1 &&& (2147483647 : Int32)) (9 : Int32)))] [(.int (irm (p1 &&& (2147483647 : Int32)) (9 : Int32)))])) _
    refine XS.ifYes X0.here hx rfl (pc0 := 9) (pc' := 16) rfl (hb hby d1_9) rfl ((if0 _ _).trans (feq hc9).2) (by decide) (by decide) ?_
    show Steps p.tables e below (s₁.setTop (mkF m 16 #[.val (.int p1), .val (.int (irm (p1 &&& (2147483647 : Int32)) (9 : Int32)))] [])) _
    refine XS.iloadN X0.here hx rfl (hb hby d1_16) rfl ?_
    show Steps p.tables e below (s₁.setTop (mkF m 17 #[.val (.int p1), .val (.int (irm (p1 &&& (2147483647 : Int32)) (9 : Int32)))] [(.int (irm (p1 &&& (2147483647 : Int32)) (9 : Int32)))])) _
    refine XS.iconst X0.here hx rfl (hb hby d1_17) ?_
    show Steps p.tables e below (s₁.setTop (mkF m 18 #[.val (.int p1), .val (.int (irm (p1 &&& (2147483647 : Int32)) (9 : Int32)))] [(.int (1 : Int32)), (.int (irm (p1 &&& (2147483647 : Int32)) (9 : Int32)))])) _
    refine XS.icmpYes X0.here hx rfl (pc0 := 18) (pc' := 25) rfl (hb hby d1_18) rfl (feq hc18).2 (by decide) (by decide) ?_
    show Steps p.tables e below (s₁.setTop (mkF m 25 #[.val (.int p1), .val (.int (irm (p1 &&& (2147483647 : Int32)) (9 : Int32)))] [])) _
    refine XS.iloadN X0.here hx rfl (hb hby d1_25) rfl ?_
    show Steps p.tables e below (s₁.setTop (mkF m 26 #[.val (.int p1), .val (.int (irm (p1 &&& (2147483647 : Int32)) (9 : Int32)))] [(.int (irm (p1 &&& (2147483647 : Int32)) (9 : Int32)))])) _
    refine XS.iconst X0.here hx rfl (hb hby d1_26) ?_
    show Steps p.tables e below (s₁.setTop (mkF m 27 #[.val (.int p1), .val (.int (irm (p1 &&& (2147483647 : Int32)) (9 : Int32)))] [(.int (2 : Int32)), (.int (irm (p1 &&& (2147483647 : Int32)) (9 : Int32)))])) _
    refine XS.icmpYes X0.here hx rfl (pc0 := 27) (pc' := 34) rfl (hb hby d1_27) rfl (feq hc27).2 (by decide) (by decide) ?_
    show Steps p.tables e below (s₁.setTop (mkF m 34 #[.val (.int p1), .val (.int (irm (p1 &&& (2147483647 : Int32)) (9 : Int32)))] [])) _
    refine XS.iloadN X0.here hx rfl (hb hby d1_34) rfl ?_
    show Steps p.tables e below (s₁.setTop (mkF m 35 #[.val (.int p1), .val (.int (irm (p1 &&& (2147483647 : Int32)) (9 : Int32)))] [(.int (irm (p1 &&& (2147483647 : Int32)) (9 : Int32)))])) _
    refine XS.iconst X0.here hx rfl (hb hby d1_35) ?_
    show Steps p.tables e below (s₁.setTop (mkF m 36 #[.val (.int p1), .val (.int (irm (p1 &&& (2147483647 : Int32)) (9 : Int32)))] [(.int (3 : Int32)), (.int (irm (p1 &&& (2147483647 : Int32)) (9 : Int32)))])) _
    refine XS.icmpYes X0.here hx rfl (pc0 := 36) (pc' := 43) rfl (hb hby d1_36) rfl (feq hc36).2 (by decide) (by decide) ?_
    show Steps p.tables e below (s₁.setTop (mkF m 43 #[.val (.int p1), .val (.int (irm (p1 &&& (2147483647 : Int32)) (9 : Int32)))] [])) _
    refine XS.iloadN X0.here hx rfl (hb hby d1_43) rfl ?_
    show Steps p.tables e below (s₁.setTop (mkF m 44 #[.val (.int p1), .val (.int (irm (p1 &&& (2147483647 : Int32)) (9 : Int32)))] [(.int (irm (p1 &&& (2147483647 : Int32)) (9 : Int32)))])) _
    refine XS.iconst X0.here hx rfl (hb hby d1_44) ?_
    show Steps p.tables e below (s₁.setTop (mkF m 45 #[.val (.int p1), .val (.int (irm (p1 &&& (2147483647 : Int32)) (9 : Int32)))] [(.int (4 : Int32)), (.int (irm (p1 &&& (2147483647 : Int32)) (9 : Int32)))])) _
    refine XS.icmpYes X0.here hx rfl (pc0 := 45) (pc' := 52) rfl (hb hby d1_45) rfl (feq hc45).2 (by decide) (by decide) ?_
    show Steps p.tables e below (s₁.setTop (mkF m 52 #[.val (.int p1), .val (.int (irm (p1 &&& (2147483647 : Int32)) (9 : Int32)))] [])) _
    refine XS.iloadN X0.here hx rfl (hb hby d1_52) rfl ?_
    show Steps p.tables e below (s₁.setTop (mkF m 53 #[.val (.int p1), .val (.int (irm (p1 &&& (2147483647 : Int32)) (9 : Int32)))] [(.int (irm (p1 &&& (2147483647 : Int32)) (9 : Int32)))])) _
    refine XS.iconst X0.here hx rfl (hb hby d1_53) ?_
    show Steps p.tables e below (s₁.setTop (mkF m 54 #[.val (.int p1), .val (.int (irm (p1 &&& (2147483647 : Int32)) (9 : Int32)))] [(.int (5 : Int32)), (.int (irm (p1 &&& (2147483647 : Int32)) (9 : Int32)))])) _
    refine XS.icmpNo X0.here hx rfl (hb hby d1_54) rfl (teq hc54).2 ?_
    show Steps p.tables e below (s₁.setTop (mkF m 57 #[.val (.int p1), .val (.int (irm (p1 &&& (2147483647 : Int32)) (9 : Int32)))] [])) _
    refine st101 _ ?_
    show Steps p.tables e below (T101.setTop (mkF m 60 #[.val (.int p1), .val (.int (irm (p1 &&& (2147483647 : Int32)) (9 : Int32)))] [(.ref w)])) _
    jvm_step X101.here [X101.here.top, hx, (hb hby d1_60), X101.method', Bd.returns, Value.isRef, FieldType.isReference]
    first | (intro acts; rw [hr _ acts rfl rfl rfl]) | rw [hr _ _ rfl rfl rfl]
    exact Steps.refl _
  · show QP (.ref w) h0 n0 _ T101.heap _
    rw [e101]
    exact ⟨rfl, N0, rfl⟩
theorem d1_61 : decode method_2_code 61 = .ok (.iload_n 1, 1) := by decide +kernel
theorem d1_62 : decode method_2_code 62 = .ok (.bipush 6, 2) := by decide +kernel
theorem d1_64 : decode method_2_code 64 = .ok (.if_icmp .ne 7, 3) := by decide +kernel
theorem d1_67 : decode method_2_code 67 = .ok (.getstatic 29, 3) := by decide +kernel
theorem d1_70 : decode method_2_code 70 = .ok (.areturn, 1) := by decide +kernel
set_option maxRecDepth 65536 in
set_option maxHeartbeats 40000000 in
theorem rm1_6 (l : Launch) (Z : State) (a0 : Array Value) (hw : ∀ d ∈ tables_1, d.before a0 Z = true) (ws : List Jvm.Cond) (p1 : Int32) (w : Addr) (h0 : Heap) (n0 : Nat) (O0 : Old Z n0 h0) (S_AWAITING_APPROVAL : Sta Z Z.heap "com/example/postback/postback/PaymentStatus" "AWAITING_APPROVAL" "Lcom/example/postback/postback/PaymentStatus;" (.ref w)) (hc9 : ¬ ((irm (p1 &&& (2147483647 : Int32)) (9 : Int32)) = (0 : Int32))) (hc18 : ¬ ((irm (p1 &&& (2147483647 : Int32)) (9 : Int32)) = (1 : Int32))) (hc27 : ¬ ((irm (p1 &&& (2147483647 : Int32)) (9 : Int32)) = (2 : Int32))) (hc36 : ¬ ((irm (p1 &&& (2147483647 : Int32)) (9 : Int32)) = (3 : Int32))) (hc45 : ¬ ((irm (p1 &&& (2147483647 : Int32)) (9 : Int32)) = (4 : Int32))) (hc54 : ¬ ((irm (p1 &&& (2147483647 : Int32)) (9 : Int32)) = (5 : Int32))) (hc64 : (irm (p1 &&& (2147483647 : Int32)) (9 : Int32)) = (6 : Int32)) :
    MetFree l (⟨"com/example/postback/postback/BuilderStatusPinLaw", "pick", "(I)Lcom/example/postback/postback/PaymentStatus;"⟩ : MethodName) (head1 (Jvm.Cond.code (⟨"com/example/postback/postback/BuilderStatusPinLaw", "pick", "(I)Lcom/example/postback/postback/PaymentStatus;"⟩ : MethodName) method_2_code 2 (some (.object "com/example/postback/postback/PaymentStatus")) :: ws) ({ frames := 0, cells := 0, slots := 0, locals := 0 } : Room)) (fun a_ U => a_ = #[(.int p1)] ∧ Z.Warmed39 U.vm ∧ U.heap = h0) (fun _ _ _ _ _ => True) (fun _ U o U' => ∃ v L, o = .returned v ∧ QP (.ref w) h0 n0 v U'.heap L ∧ FrameEnd U o U' L ({ frames := 0, cells := 0, slots := 0, locals := 0 } : Room).cells ({ frames := 0, cells := 0, slots := 0, locals := 0 } : Room).slots) := by
  refine MetFree.of_bodySF (plainFor_of_name pn_0) hisR ?_
  intro p e s m args below meth c s₁ Bd hml0 hP hK
  obtain ⟨rfl, hZ, hh⟩ := hP
  have hx := Bd.exec
  have hby := Bd.bytes
  have hml : c.maxLocals = 2 := hml0
  have hown : s.vm.findClass "com/example/postback/postback/BuilderStatusPinLaw" = some m.cls := findClass_of_methodNamed Bd.named
  have hnm := (name_of_methodNamed Bd.named Bd.method).1
  have X0 : Stand p l e ({ frames := 0, cells := 0, slots := 0, locals := 0 } : Room) s m #[(.int p1)] below meth c s₁ [] 0 0 := Stand.of_body Bd
  have e0 : s₁.heap = h0 := by rw [← hh, Bd.state]; rfl
  have N0 := Fr.nil n0
  have pre0 : ∀ tg, Steps p.tables e below (s₁.setTop (mkF m 0 #[.val (.int p1), .unset] [])) tg → Steps p.tables e below (s₁.setTop (entryFrame m #[(.int p1)] 2)) tg := fun tg kq => castTop (ef_I_2 m p1) kq
  obtain ⟨T101, X101, e101, st101⟩ := getS2 X0 hx hZ hown (host := "") (Or.inl (wi hw 115 rfl)) Via.refl e0 (S_AWAITING_APPROVAL.ext O0.2) (g := (mkF m 67 #[.val (.int p1), .val (.int (irm (p1 &&& (2147483647 : Int32)) (9 : Int32)))] [])) rfl (hb hby d1_67)
  obtain ⟨fs, hr, hrun, hended, hW, hsame⟩ := X101.leave (v := some (.ref w)) (fun h => by rw [Bd.returns] at h; cases h)
  refine ⟨_, _, pre0 _ ?_, hrun, hended, _, _, rfl, ?_, ⟨_, rfl⟩, hW, hsame.mono (by decide) (by decide)⟩
  · show Steps p.tables e below (s₁.setTop (mkF m 0 #[.val (.int p1), .unset] [])) _
    refine XS.iloadN X0.here hx rfl (hb hby d1_0) rfl ?_
    show Steps p.tables e below (s₁.setTop (mkF m 1 #[.val (.int p1), .unset] [(.int p1)])) _
    refine X0.ldcInt hx hown (mvT hZ (wi hw 4 rfl)) (g := (mkF m 1 #[.val (.int p1), .unset] [(.int p1)])) rfl (hb hby d1_1) _ ?_
    show Steps p.tables e below (s₁.setTop (mkF m 3 #[.val (.int p1), .unset] [(.int (2147483647 : Int32)), (.int p1)])) _
    refine XS.iand X0.here hx rfl (hb hby d1_3) rfl ?_
    show Steps p.tables e below (s₁.setTop (mkF m 4 #[.val (.int p1), .unset] [(.int (p1 &&& (2147483647 : Int32)))])) _
    refine XS.bipush X0.here hx rfl (hb hby d1_4) ?_
    show Steps p.tables e below (s₁.setTop (mkF m 6 #[.val (.int p1), .unset] [(.int (9 : Int32)), (.int (p1 &&& (2147483647 : Int32)))])) _
    refine XS.irem X0.here hx rfl (hb hby d1_6) rfl (by decide) ?_
    show Steps p.tables e below (s₁.setTop (mkF m 7 #[.val (.int p1), .unset] [(.int (irm (p1 &&& (2147483647 : Int32)) (9 : Int32)))])) _
    refine XS.istoreN X0.here hx rfl (hb hby d1_7) rfl (l' := #[.val (.int p1), .val (.int (irm (p1 &&& (2147483647 : Int32)) (9 : Int32)))]) rfl ?_
    show Steps p.tables e below (s₁.setTop (mkF m 8 #[.val (.int p1), .val (.int (irm (p1 &&& (2147483647 : Int32)) (9 : Int32)))] [])) _
    refine XS.iloadN X0.here hx rfl (hb hby d1_8) rfl ?_
    show Steps p.tables e below (s₁.setTop (mkF m 9 #[.val (.int p1), .val (.int (irm (p1 &&& (2147483647 : Int32)) (9 : Int32)))] [(.int (irm (p1 &&& (2147483647 : Int32)) (9 : Int32)))])) _
    refine XS.ifYes X0.here hx rfl (pc0 := 9) (pc' := 16) rfl (hb hby d1_9) rfl ((if0 _ _).trans (feq hc9).2) (by decide) (by decide) ?_
    show Steps p.tables e below (s₁.setTop (mkF m 16 #[.val (.int p1), .val (.int (irm (p1 &&& (2147483647 : Int32)) (9 : Int32)))] [])) _
    refine XS.iloadN X0.here hx rfl (hb hby d1_16) rfl ?_
    show Steps p.tables e below (s₁.setTop (mkF m 17 #[.val (.int p1), .val (.int (irm (p1 &&& (2147483647 : Int32)) (9 : Int32)))] [(.int (irm (p1 &&& (2147483647 : Int32)) (9 : Int32)))])) _
    refine XS.iconst X0.here hx rfl (hb hby d1_17) ?_
    show Steps p.tables e below (s₁.setTop (mkF m 18 #[.val (.int p1), .val (.int (irm (p1 &&& (2147483647 : Int32)) (9 : Int32)))] [(.int (1 : Int32)), (.int (irm (p1 &&& (2147483647 : Int32)) (9 : Int32)))])) _
    refine XS.icmpYes X0.here hx rfl (pc0 := 18) (pc' := 25) rfl (hb hby d1_18) rfl (feq hc18).2 (by decide) (by decide) ?_
    show Steps p.tables e below (s₁.setTop (mkF m 25 #[.val (.int p1), .val (.int (irm (p1 &&& (2147483647 : Int32)) (9 : Int32)))] [])) _
    refine XS.iloadN X0.here hx rfl (hb hby d1_25) rfl ?_
    show Steps p.tables e below (s₁.setTop (mkF m 26 #[.val (.int p1), .val (.int (irm (p1 &&& (2147483647 : Int32)) (9 : Int32)))] [(.int (irm (p1 &&& (2147483647 : Int32)) (9 : Int32)))])) _
    refine XS.iconst X0.here hx rfl (hb hby d1_26) ?_
    show Steps p.tables e below (s₁.setTop (mkF m 27 #[.val (.int p1), .val (.int (irm (p1 &&& (2147483647 : Int32)) (9 : Int32)))] [(.int (2 : Int32)), (.int (irm (p1 &&& (2147483647 : Int32)) (9 : Int32)))])) _
    refine XS.icmpYes X0.here hx rfl (pc0 := 27) (pc' := 34) rfl (hb hby d1_27) rfl (feq hc27).2 (by decide) (by decide) ?_
    show Steps p.tables e below (s₁.setTop (mkF m 34 #[.val (.int p1), .val (.int (irm (p1 &&& (2147483647 : Int32)) (9 : Int32)))] [])) _
    refine XS.iloadN X0.here hx rfl (hb hby d1_34) rfl ?_
    show Steps p.tables e below (s₁.setTop (mkF m 35 #[.val (.int p1), .val (.int (irm (p1 &&& (2147483647 : Int32)) (9 : Int32)))] [(.int (irm (p1 &&& (2147483647 : Int32)) (9 : Int32)))])) _
    refine XS.iconst X0.here hx rfl (hb hby d1_35) ?_
    show Steps p.tables e below (s₁.setTop (mkF m 36 #[.val (.int p1), .val (.int (irm (p1 &&& (2147483647 : Int32)) (9 : Int32)))] [(.int (3 : Int32)), (.int (irm (p1 &&& (2147483647 : Int32)) (9 : Int32)))])) _
    refine XS.icmpYes X0.here hx rfl (pc0 := 36) (pc' := 43) rfl (hb hby d1_36) rfl (feq hc36).2 (by decide) (by decide) ?_
    show Steps p.tables e below (s₁.setTop (mkF m 43 #[.val (.int p1), .val (.int (irm (p1 &&& (2147483647 : Int32)) (9 : Int32)))] [])) _
    refine XS.iloadN X0.here hx rfl (hb hby d1_43) rfl ?_
    show Steps p.tables e below (s₁.setTop (mkF m 44 #[.val (.int p1), .val (.int (irm (p1 &&& (2147483647 : Int32)) (9 : Int32)))] [(.int (irm (p1 &&& (2147483647 : Int32)) (9 : Int32)))])) _
    refine XS.iconst X0.here hx rfl (hb hby d1_44) ?_
    show Steps p.tables e below (s₁.setTop (mkF m 45 #[.val (.int p1), .val (.int (irm (p1 &&& (2147483647 : Int32)) (9 : Int32)))] [(.int (4 : Int32)), (.int (irm (p1 &&& (2147483647 : Int32)) (9 : Int32)))])) _
    refine XS.icmpYes X0.here hx rfl (pc0 := 45) (pc' := 52) rfl (hb hby d1_45) rfl (feq hc45).2 (by decide) (by decide) ?_
    show Steps p.tables e below (s₁.setTop (mkF m 52 #[.val (.int p1), .val (.int (irm (p1 &&& (2147483647 : Int32)) (9 : Int32)))] [])) _
    refine XS.iloadN X0.here hx rfl (hb hby d1_52) rfl ?_
    show Steps p.tables e below (s₁.setTop (mkF m 53 #[.val (.int p1), .val (.int (irm (p1 &&& (2147483647 : Int32)) (9 : Int32)))] [(.int (irm (p1 &&& (2147483647 : Int32)) (9 : Int32)))])) _
    refine XS.iconst X0.here hx rfl (hb hby d1_53) ?_
    show Steps p.tables e below (s₁.setTop (mkF m 54 #[.val (.int p1), .val (.int (irm (p1 &&& (2147483647 : Int32)) (9 : Int32)))] [(.int (5 : Int32)), (.int (irm (p1 &&& (2147483647 : Int32)) (9 : Int32)))])) _
    refine XS.icmpYes X0.here hx rfl (pc0 := 54) (pc' := 61) rfl (hb hby d1_54) rfl (feq hc54).2 (by decide) (by decide) ?_
    show Steps p.tables e below (s₁.setTop (mkF m 61 #[.val (.int p1), .val (.int (irm (p1 &&& (2147483647 : Int32)) (9 : Int32)))] [])) _
    refine XS.iloadN X0.here hx rfl (hb hby d1_61) rfl ?_
    show Steps p.tables e below (s₁.setTop (mkF m 62 #[.val (.int p1), .val (.int (irm (p1 &&& (2147483647 : Int32)) (9 : Int32)))] [(.int (irm (p1 &&& (2147483647 : Int32)) (9 : Int32)))])) _
    refine XS.bipush X0.here hx rfl (hb hby d1_62) ?_
    show Steps p.tables e below (s₁.setTop (mkF m 64 #[.val (.int p1), .val (.int (irm (p1 &&& (2147483647 : Int32)) (9 : Int32)))] [(.int (6 : Int32)), (.int (irm (p1 &&& (2147483647 : Int32)) (9 : Int32)))])) _
    refine XS.icmpNo X0.here hx rfl (hb hby d1_64) rfl (teq hc64).2 ?_
    show Steps p.tables e below (s₁.setTop (mkF m 67 #[.val (.int p1), .val (.int (irm (p1 &&& (2147483647 : Int32)) (9 : Int32)))] [])) _
    refine st101 _ ?_
    show Steps p.tables e below (T101.setTop (mkF m 70 #[.val (.int p1), .val (.int (irm (p1 &&& (2147483647 : Int32)) (9 : Int32)))] [(.ref w)])) _
    jvm_step X101.here [X101.here.top, hx, (hb hby d1_70), X101.method', Bd.returns, Value.isRef, FieldType.isReference]
    first | (intro acts; rw [hr _ acts rfl rfl rfl]) | rw [hr _ _ rfl rfl rfl]
    exact Steps.refl _
  · show QP (.ref w) h0 n0 _ T101.heap _
    rw [e101]
    exact ⟨rfl, N0, rfl⟩
theorem d1_71 : decode method_2_code 71 = .ok (.iload_n 1, 1) := by decide +kernel
theorem d1_72 : decode method_2_code 72 = .ok (.bipush 7, 2) := by decide +kernel
theorem d1_74 : decode method_2_code 74 = .ok (.if_icmp .ne 7, 3) := by decide +kernel
theorem d1_77 : decode method_2_code 77 = .ok (.getstatic 32, 3) := by decide +kernel
theorem d1_80 : decode method_2_code 80 = .ok (.areturn, 1) := by decide +kernel
set_option maxRecDepth 65536 in
set_option maxHeartbeats 40000000 in
theorem rm1_7 (l : Launch) (Z : State) (a0 : Array Value) (hw : ∀ d ∈ tables_1, d.before a0 Z = true) (ws : List Jvm.Cond) (p1 : Int32) (w : Addr) (h0 : Heap) (n0 : Nat) (O0 : Old Z n0 h0) (S_REJECTED : Sta Z Z.heap "com/example/postback/postback/PaymentStatus" "REJECTED" "Lcom/example/postback/postback/PaymentStatus;" (.ref w)) (hc9 : ¬ ((irm (p1 &&& (2147483647 : Int32)) (9 : Int32)) = (0 : Int32))) (hc18 : ¬ ((irm (p1 &&& (2147483647 : Int32)) (9 : Int32)) = (1 : Int32))) (hc27 : ¬ ((irm (p1 &&& (2147483647 : Int32)) (9 : Int32)) = (2 : Int32))) (hc36 : ¬ ((irm (p1 &&& (2147483647 : Int32)) (9 : Int32)) = (3 : Int32))) (hc45 : ¬ ((irm (p1 &&& (2147483647 : Int32)) (9 : Int32)) = (4 : Int32))) (hc54 : ¬ ((irm (p1 &&& (2147483647 : Int32)) (9 : Int32)) = (5 : Int32))) (hc64 : ¬ ((irm (p1 &&& (2147483647 : Int32)) (9 : Int32)) = (6 : Int32))) (hc74 : (irm (p1 &&& (2147483647 : Int32)) (9 : Int32)) = (7 : Int32)) :
    MetFree l (⟨"com/example/postback/postback/BuilderStatusPinLaw", "pick", "(I)Lcom/example/postback/postback/PaymentStatus;"⟩ : MethodName) (head1 (Jvm.Cond.code (⟨"com/example/postback/postback/BuilderStatusPinLaw", "pick", "(I)Lcom/example/postback/postback/PaymentStatus;"⟩ : MethodName) method_2_code 2 (some (.object "com/example/postback/postback/PaymentStatus")) :: ws) ({ frames := 0, cells := 0, slots := 0, locals := 0 } : Room)) (fun a_ U => a_ = #[(.int p1)] ∧ Z.Warmed39 U.vm ∧ U.heap = h0) (fun _ _ _ _ _ => True) (fun _ U o U' => ∃ v L, o = .returned v ∧ QP (.ref w) h0 n0 v U'.heap L ∧ FrameEnd U o U' L ({ frames := 0, cells := 0, slots := 0, locals := 0 } : Room).cells ({ frames := 0, cells := 0, slots := 0, locals := 0 } : Room).slots) := by
  refine MetFree.of_bodySF (plainFor_of_name pn_0) hisR ?_
  intro p e s m args below meth c s₁ Bd hml0 hP hK
  obtain ⟨rfl, hZ, hh⟩ := hP
  have hx := Bd.exec
  have hby := Bd.bytes
  have hml : c.maxLocals = 2 := hml0
  have hown : s.vm.findClass "com/example/postback/postback/BuilderStatusPinLaw" = some m.cls := findClass_of_methodNamed Bd.named
  have hnm := (name_of_methodNamed Bd.named Bd.method).1
  have X0 : Stand p l e ({ frames := 0, cells := 0, slots := 0, locals := 0 } : Room) s m #[(.int p1)] below meth c s₁ [] 0 0 := Stand.of_body Bd
  have e0 : s₁.heap = h0 := by rw [← hh, Bd.state]; rfl
  have N0 := Fr.nil n0
  have pre0 : ∀ tg, Steps p.tables e below (s₁.setTop (mkF m 0 #[.val (.int p1), .unset] [])) tg → Steps p.tables e below (s₁.setTop (entryFrame m #[(.int p1)] 2)) tg := fun tg kq => castTop (ef_I_2 m p1) kq
  obtain ⟨T101, X101, e101, st101⟩ := getS2 X0 hx hZ hown (host := "") (Or.inl (wi hw 113 rfl)) Via.refl e0 (S_REJECTED.ext O0.2) (g := (mkF m 77 #[.val (.int p1), .val (.int (irm (p1 &&& (2147483647 : Int32)) (9 : Int32)))] [])) rfl (hb hby d1_77)
  obtain ⟨fs, hr, hrun, hended, hW, hsame⟩ := X101.leave (v := some (.ref w)) (fun h => by rw [Bd.returns] at h; cases h)
  refine ⟨_, _, pre0 _ ?_, hrun, hended, _, _, rfl, ?_, ⟨_, rfl⟩, hW, hsame.mono (by decide) (by decide)⟩
  · show Steps p.tables e below (s₁.setTop (mkF m 0 #[.val (.int p1), .unset] [])) _
    refine XS.iloadN X0.here hx rfl (hb hby d1_0) rfl ?_
    show Steps p.tables e below (s₁.setTop (mkF m 1 #[.val (.int p1), .unset] [(.int p1)])) _
    refine X0.ldcInt hx hown (mvT hZ (wi hw 4 rfl)) (g := (mkF m 1 #[.val (.int p1), .unset] [(.int p1)])) rfl (hb hby d1_1) _ ?_
    show Steps p.tables e below (s₁.setTop (mkF m 3 #[.val (.int p1), .unset] [(.int (2147483647 : Int32)), (.int p1)])) _
    refine XS.iand X0.here hx rfl (hb hby d1_3) rfl ?_
    show Steps p.tables e below (s₁.setTop (mkF m 4 #[.val (.int p1), .unset] [(.int (p1 &&& (2147483647 : Int32)))])) _
    refine XS.bipush X0.here hx rfl (hb hby d1_4) ?_
    show Steps p.tables e below (s₁.setTop (mkF m 6 #[.val (.int p1), .unset] [(.int (9 : Int32)), (.int (p1 &&& (2147483647 : Int32)))])) _
    refine XS.irem X0.here hx rfl (hb hby d1_6) rfl (by decide) ?_
    show Steps p.tables e below (s₁.setTop (mkF m 7 #[.val (.int p1), .unset] [(.int (irm (p1 &&& (2147483647 : Int32)) (9 : Int32)))])) _
    refine XS.istoreN X0.here hx rfl (hb hby d1_7) rfl (l' := #[.val (.int p1), .val (.int (irm (p1 &&& (2147483647 : Int32)) (9 : Int32)))]) rfl ?_
    show Steps p.tables e below (s₁.setTop (mkF m 8 #[.val (.int p1), .val (.int (irm (p1 &&& (2147483647 : Int32)) (9 : Int32)))] [])) _
    refine XS.iloadN X0.here hx rfl (hb hby d1_8) rfl ?_
    show Steps p.tables e below (s₁.setTop (mkF m 9 #[.val (.int p1), .val (.int (irm (p1 &&& (2147483647 : Int32)) (9 : Int32)))] [(.int (irm (p1 &&& (2147483647 : Int32)) (9 : Int32)))])) _
    refine XS.ifYes X0.here hx rfl (pc0 := 9) (pc' := 16) rfl (hb hby d1_9) rfl ((if0 _ _).trans (feq hc9).2) (by decide) (by decide) ?_
    show Steps p.tables e below (s₁.setTop (mkF m 16 #[.val (.int p1), .val (.int (irm (p1 &&& (2147483647 : Int32)) (9 : Int32)))] [])) _
    refine XS.iloadN X0.here hx rfl (hb hby d1_16) rfl ?_
    show Steps p.tables e below (s₁.setTop (mkF m 17 #[.val (.int p1), .val (.int (irm (p1 &&& (2147483647 : Int32)) (9 : Int32)))] [(.int (irm (p1 &&& (2147483647 : Int32)) (9 : Int32)))])) _
    refine XS.iconst X0.here hx rfl (hb hby d1_17) ?_
    show Steps p.tables e below (s₁.setTop (mkF m 18 #[.val (.int p1), .val (.int (irm (p1 &&& (2147483647 : Int32)) (9 : Int32)))] [(.int (1 : Int32)), (.int (irm (p1 &&& (2147483647 : Int32)) (9 : Int32)))])) _
    refine XS.icmpYes X0.here hx rfl (pc0 := 18) (pc' := 25) rfl (hb hby d1_18) rfl (feq hc18).2 (by decide) (by decide) ?_
    show Steps p.tables e below (s₁.setTop (mkF m 25 #[.val (.int p1), .val (.int (irm (p1 &&& (2147483647 : Int32)) (9 : Int32)))] [])) _
    refine XS.iloadN X0.here hx rfl (hb hby d1_25) rfl ?_
    show Steps p.tables e below (s₁.setTop (mkF m 26 #[.val (.int p1), .val (.int (irm (p1 &&& (2147483647 : Int32)) (9 : Int32)))] [(.int (irm (p1 &&& (2147483647 : Int32)) (9 : Int32)))])) _
    refine XS.iconst X0.here hx rfl (hb hby d1_26) ?_
    show Steps p.tables e below (s₁.setTop (mkF m 27 #[.val (.int p1), .val (.int (irm (p1 &&& (2147483647 : Int32)) (9 : Int32)))] [(.int (2 : Int32)), (.int (irm (p1 &&& (2147483647 : Int32)) (9 : Int32)))])) _
    refine XS.icmpYes X0.here hx rfl (pc0 := 27) (pc' := 34) rfl (hb hby d1_27) rfl (feq hc27).2 (by decide) (by decide) ?_
    show Steps p.tables e below (s₁.setTop (mkF m 34 #[.val (.int p1), .val (.int (irm (p1 &&& (2147483647 : Int32)) (9 : Int32)))] [])) _
    refine XS.iloadN X0.here hx rfl (hb hby d1_34) rfl ?_
    show Steps p.tables e below (s₁.setTop (mkF m 35 #[.val (.int p1), .val (.int (irm (p1 &&& (2147483647 : Int32)) (9 : Int32)))] [(.int (irm (p1 &&& (2147483647 : Int32)) (9 : Int32)))])) _
    refine XS.iconst X0.here hx rfl (hb hby d1_35) ?_
    show Steps p.tables e below (s₁.setTop (mkF m 36 #[.val (.int p1), .val (.int (irm (p1 &&& (2147483647 : Int32)) (9 : Int32)))] [(.int (3 : Int32)), (.int (irm (p1 &&& (2147483647 : Int32)) (9 : Int32)))])) _
    refine XS.icmpYes X0.here hx rfl (pc0 := 36) (pc' := 43) rfl (hb hby d1_36) rfl (feq hc36).2 (by decide) (by decide) ?_
    show Steps p.tables e below (s₁.setTop (mkF m 43 #[.val (.int p1), .val (.int (irm (p1 &&& (2147483647 : Int32)) (9 : Int32)))] [])) _
    refine XS.iloadN X0.here hx rfl (hb hby d1_43) rfl ?_
    show Steps p.tables e below (s₁.setTop (mkF m 44 #[.val (.int p1), .val (.int (irm (p1 &&& (2147483647 : Int32)) (9 : Int32)))] [(.int (irm (p1 &&& (2147483647 : Int32)) (9 : Int32)))])) _
    refine XS.iconst X0.here hx rfl (hb hby d1_44) ?_
    show Steps p.tables e below (s₁.setTop (mkF m 45 #[.val (.int p1), .val (.int (irm (p1 &&& (2147483647 : Int32)) (9 : Int32)))] [(.int (4 : Int32)), (.int (irm (p1 &&& (2147483647 : Int32)) (9 : Int32)))])) _
    refine XS.icmpYes X0.here hx rfl (pc0 := 45) (pc' := 52) rfl (hb hby d1_45) rfl (feq hc45).2 (by decide) (by decide) ?_
    show Steps p.tables e below (s₁.setTop (mkF m 52 #[.val (.int p1), .val (.int (irm (p1 &&& (2147483647 : Int32)) (9 : Int32)))] [])) _
    refine XS.iloadN X0.here hx rfl (hb hby d1_52) rfl ?_
    show Steps p.tables e below (s₁.setTop (mkF m 53 #[.val (.int p1), .val (.int (irm (p1 &&& (2147483647 : Int32)) (9 : Int32)))] [(.int (irm (p1 &&& (2147483647 : Int32)) (9 : Int32)))])) _
    refine XS.iconst X0.here hx rfl (hb hby d1_53) ?_
    show Steps p.tables e below (s₁.setTop (mkF m 54 #[.val (.int p1), .val (.int (irm (p1 &&& (2147483647 : Int32)) (9 : Int32)))] [(.int (5 : Int32)), (.int (irm (p1 &&& (2147483647 : Int32)) (9 : Int32)))])) _
    refine XS.icmpYes X0.here hx rfl (pc0 := 54) (pc' := 61) rfl (hb hby d1_54) rfl (feq hc54).2 (by decide) (by decide) ?_
    show Steps p.tables e below (s₁.setTop (mkF m 61 #[.val (.int p1), .val (.int (irm (p1 &&& (2147483647 : Int32)) (9 : Int32)))] [])) _
    refine XS.iloadN X0.here hx rfl (hb hby d1_61) rfl ?_
    show Steps p.tables e below (s₁.setTop (mkF m 62 #[.val (.int p1), .val (.int (irm (p1 &&& (2147483647 : Int32)) (9 : Int32)))] [(.int (irm (p1 &&& (2147483647 : Int32)) (9 : Int32)))])) _
    refine XS.bipush X0.here hx rfl (hb hby d1_62) ?_
    show Steps p.tables e below (s₁.setTop (mkF m 64 #[.val (.int p1), .val (.int (irm (p1 &&& (2147483647 : Int32)) (9 : Int32)))] [(.int (6 : Int32)), (.int (irm (p1 &&& (2147483647 : Int32)) (9 : Int32)))])) _
    refine XS.icmpYes X0.here hx rfl (pc0 := 64) (pc' := 71) rfl (hb hby d1_64) rfl (feq hc64).2 (by decide) (by decide) ?_
    show Steps p.tables e below (s₁.setTop (mkF m 71 #[.val (.int p1), .val (.int (irm (p1 &&& (2147483647 : Int32)) (9 : Int32)))] [])) _
    refine XS.iloadN X0.here hx rfl (hb hby d1_71) rfl ?_
    show Steps p.tables e below (s₁.setTop (mkF m 72 #[.val (.int p1), .val (.int (irm (p1 &&& (2147483647 : Int32)) (9 : Int32)))] [(.int (irm (p1 &&& (2147483647 : Int32)) (9 : Int32)))])) _
    refine XS.bipush X0.here hx rfl (hb hby d1_72) ?_
    show Steps p.tables e below (s₁.setTop (mkF m 74 #[.val (.int p1), .val (.int (irm (p1 &&& (2147483647 : Int32)) (9 : Int32)))] [(.int (7 : Int32)), (.int (irm (p1 &&& (2147483647 : Int32)) (9 : Int32)))])) _
    refine XS.icmpNo X0.here hx rfl (hb hby d1_74) rfl (teq hc74).2 ?_
    show Steps p.tables e below (s₁.setTop (mkF m 77 #[.val (.int p1), .val (.int (irm (p1 &&& (2147483647 : Int32)) (9 : Int32)))] [])) _
    refine st101 _ ?_
    show Steps p.tables e below (T101.setTop (mkF m 80 #[.val (.int p1), .val (.int (irm (p1 &&& (2147483647 : Int32)) (9 : Int32)))] [(.ref w)])) _
    jvm_step X101.here [X101.here.top, hx, (hb hby d1_80), X101.method', Bd.returns, Value.isRef, FieldType.isReference]
    first | (intro acts; rw [hr _ acts rfl rfl rfl]) | rw [hr _ _ rfl rfl rfl]
    exact Steps.refl _
  · show QP (.ref w) h0 n0 _ T101.heap _
    rw [e101]
    exact ⟨rfl, N0, rfl⟩
theorem d1_81 : decode method_2_code 81 = .ok (.getstatic 35, 3) := by decide +kernel
theorem d1_84 : decode method_2_code 84 = .ok (.areturn, 1) := by decide +kernel
set_option maxRecDepth 65536 in
set_option maxHeartbeats 40000000 in
theorem rm1_8 (l : Launch) (Z : State) (a0 : Array Value) (hw : ∀ d ∈ tables_1, d.before a0 Z = true) (ws : List Jvm.Cond) (p1 : Int32) (w : Addr) (h0 : Heap) (n0 : Nat) (O0 : Old Z n0 h0) (S_UNKNOWN : Sta Z Z.heap "com/example/postback/postback/PaymentStatus" "UNKNOWN" "Lcom/example/postback/postback/PaymentStatus;" (.ref w)) (hc9 : ¬ ((irm (p1 &&& (2147483647 : Int32)) (9 : Int32)) = (0 : Int32))) (hc18 : ¬ ((irm (p1 &&& (2147483647 : Int32)) (9 : Int32)) = (1 : Int32))) (hc27 : ¬ ((irm (p1 &&& (2147483647 : Int32)) (9 : Int32)) = (2 : Int32))) (hc36 : ¬ ((irm (p1 &&& (2147483647 : Int32)) (9 : Int32)) = (3 : Int32))) (hc45 : ¬ ((irm (p1 &&& (2147483647 : Int32)) (9 : Int32)) = (4 : Int32))) (hc54 : ¬ ((irm (p1 &&& (2147483647 : Int32)) (9 : Int32)) = (5 : Int32))) (hc64 : ¬ ((irm (p1 &&& (2147483647 : Int32)) (9 : Int32)) = (6 : Int32))) (hc74 : ¬ ((irm (p1 &&& (2147483647 : Int32)) (9 : Int32)) = (7 : Int32))) :
    MetFree l (⟨"com/example/postback/postback/BuilderStatusPinLaw", "pick", "(I)Lcom/example/postback/postback/PaymentStatus;"⟩ : MethodName) (head1 (Jvm.Cond.code (⟨"com/example/postback/postback/BuilderStatusPinLaw", "pick", "(I)Lcom/example/postback/postback/PaymentStatus;"⟩ : MethodName) method_2_code 2 (some (.object "com/example/postback/postback/PaymentStatus")) :: ws) ({ frames := 0, cells := 0, slots := 0, locals := 0 } : Room)) (fun a_ U => a_ = #[(.int p1)] ∧ Z.Warmed39 U.vm ∧ U.heap = h0) (fun _ _ _ _ _ => True) (fun _ U o U' => ∃ v L, o = .returned v ∧ QP (.ref w) h0 n0 v U'.heap L ∧ FrameEnd U o U' L ({ frames := 0, cells := 0, slots := 0, locals := 0 } : Room).cells ({ frames := 0, cells := 0, slots := 0, locals := 0 } : Room).slots) := by
  refine MetFree.of_bodySF (plainFor_of_name pn_0) hisR ?_
  intro p e s m args below meth c s₁ Bd hml0 hP hK
  obtain ⟨rfl, hZ, hh⟩ := hP
  have hx := Bd.exec
  have hby := Bd.bytes
  have hml : c.maxLocals = 2 := hml0
  have hown : s.vm.findClass "com/example/postback/postback/BuilderStatusPinLaw" = some m.cls := findClass_of_methodNamed Bd.named
  have hnm := (name_of_methodNamed Bd.named Bd.method).1
  have X0 : Stand p l e ({ frames := 0, cells := 0, slots := 0, locals := 0 } : Room) s m #[(.int p1)] below meth c s₁ [] 0 0 := Stand.of_body Bd
  have e0 : s₁.heap = h0 := by rw [← hh, Bd.state]; rfl
  have N0 := Fr.nil n0
  have pre0 : ∀ tg, Steps p.tables e below (s₁.setTop (mkF m 0 #[.val (.int p1), .unset] [])) tg → Steps p.tables e below (s₁.setTop (entryFrame m #[(.int p1)] 2)) tg := fun tg kq => castTop (ef_I_2 m p1) kq
  obtain ⟨T101, X101, e101, st101⟩ := getS2 X0 hx hZ hown (host := "") (Or.inl (wi hw 112 rfl)) Via.refl e0 (S_UNKNOWN.ext O0.2) (g := (mkF m 81 #[.val (.int p1), .val (.int (irm (p1 &&& (2147483647 : Int32)) (9 : Int32)))] [])) rfl (hb hby d1_81)
  obtain ⟨fs, hr, hrun, hended, hW, hsame⟩ := X101.leave (v := some (.ref w)) (fun h => by rw [Bd.returns] at h; cases h)
  refine ⟨_, _, pre0 _ ?_, hrun, hended, _, _, rfl, ?_, ⟨_, rfl⟩, hW, hsame.mono (by decide) (by decide)⟩
  · show Steps p.tables e below (s₁.setTop (mkF m 0 #[.val (.int p1), .unset] [])) _
    refine XS.iloadN X0.here hx rfl (hb hby d1_0) rfl ?_
    show Steps p.tables e below (s₁.setTop (mkF m 1 #[.val (.int p1), .unset] [(.int p1)])) _
    refine X0.ldcInt hx hown (mvT hZ (wi hw 4 rfl)) (g := (mkF m 1 #[.val (.int p1), .unset] [(.int p1)])) rfl (hb hby d1_1) _ ?_
    show Steps p.tables e below (s₁.setTop (mkF m 3 #[.val (.int p1), .unset] [(.int (2147483647 : Int32)), (.int p1)])) _
    refine XS.iand X0.here hx rfl (hb hby d1_3) rfl ?_
    show Steps p.tables e below (s₁.setTop (mkF m 4 #[.val (.int p1), .unset] [(.int (p1 &&& (2147483647 : Int32)))])) _
    refine XS.bipush X0.here hx rfl (hb hby d1_4) ?_
    show Steps p.tables e below (s₁.setTop (mkF m 6 #[.val (.int p1), .unset] [(.int (9 : Int32)), (.int (p1 &&& (2147483647 : Int32)))])) _
    refine XS.irem X0.here hx rfl (hb hby d1_6) rfl (by decide) ?_
    show Steps p.tables e below (s₁.setTop (mkF m 7 #[.val (.int p1), .unset] [(.int (irm (p1 &&& (2147483647 : Int32)) (9 : Int32)))])) _
    refine XS.istoreN X0.here hx rfl (hb hby d1_7) rfl (l' := #[.val (.int p1), .val (.int (irm (p1 &&& (2147483647 : Int32)) (9 : Int32)))]) rfl ?_
    show Steps p.tables e below (s₁.setTop (mkF m 8 #[.val (.int p1), .val (.int (irm (p1 &&& (2147483647 : Int32)) (9 : Int32)))] [])) _
    refine XS.iloadN X0.here hx rfl (hb hby d1_8) rfl ?_
    show Steps p.tables e below (s₁.setTop (mkF m 9 #[.val (.int p1), .val (.int (irm (p1 &&& (2147483647 : Int32)) (9 : Int32)))] [(.int (irm (p1 &&& (2147483647 : Int32)) (9 : Int32)))])) _
    refine XS.ifYes X0.here hx rfl (pc0 := 9) (pc' := 16) rfl (hb hby d1_9) rfl ((if0 _ _).trans (feq hc9).2) (by decide) (by decide) ?_
    show Steps p.tables e below (s₁.setTop (mkF m 16 #[.val (.int p1), .val (.int (irm (p1 &&& (2147483647 : Int32)) (9 : Int32)))] [])) _
    refine XS.iloadN X0.here hx rfl (hb hby d1_16) rfl ?_
    show Steps p.tables e below (s₁.setTop (mkF m 17 #[.val (.int p1), .val (.int (irm (p1 &&& (2147483647 : Int32)) (9 : Int32)))] [(.int (irm (p1 &&& (2147483647 : Int32)) (9 : Int32)))])) _
    refine XS.iconst X0.here hx rfl (hb hby d1_17) ?_
    show Steps p.tables e below (s₁.setTop (mkF m 18 #[.val (.int p1), .val (.int (irm (p1 &&& (2147483647 : Int32)) (9 : Int32)))] [(.int (1 : Int32)), (.int (irm (p1 &&& (2147483647 : Int32)) (9 : Int32)))])) _
    refine XS.icmpYes X0.here hx rfl (pc0 := 18) (pc' := 25) rfl (hb hby d1_18) rfl (feq hc18).2 (by decide) (by decide) ?_
    show Steps p.tables e below (s₁.setTop (mkF m 25 #[.val (.int p1), .val (.int (irm (p1 &&& (2147483647 : Int32)) (9 : Int32)))] [])) _
    refine XS.iloadN X0.here hx rfl (hb hby d1_25) rfl ?_
    show Steps p.tables e below (s₁.setTop (mkF m 26 #[.val (.int p1), .val (.int (irm (p1 &&& (2147483647 : Int32)) (9 : Int32)))] [(.int (irm (p1 &&& (2147483647 : Int32)) (9 : Int32)))])) _
    refine XS.iconst X0.here hx rfl (hb hby d1_26) ?_
    show Steps p.tables e below (s₁.setTop (mkF m 27 #[.val (.int p1), .val (.int (irm (p1 &&& (2147483647 : Int32)) (9 : Int32)))] [(.int (2 : Int32)), (.int (irm (p1 &&& (2147483647 : Int32)) (9 : Int32)))])) _
    refine XS.icmpYes X0.here hx rfl (pc0 := 27) (pc' := 34) rfl (hb hby d1_27) rfl (feq hc27).2 (by decide) (by decide) ?_
    show Steps p.tables e below (s₁.setTop (mkF m 34 #[.val (.int p1), .val (.int (irm (p1 &&& (2147483647 : Int32)) (9 : Int32)))] [])) _
    refine XS.iloadN X0.here hx rfl (hb hby d1_34) rfl ?_
    show Steps p.tables e below (s₁.setTop (mkF m 35 #[.val (.int p1), .val (.int (irm (p1 &&& (2147483647 : Int32)) (9 : Int32)))] [(.int (irm (p1 &&& (2147483647 : Int32)) (9 : Int32)))])) _
    refine XS.iconst X0.here hx rfl (hb hby d1_35) ?_
    show Steps p.tables e below (s₁.setTop (mkF m 36 #[.val (.int p1), .val (.int (irm (p1 &&& (2147483647 : Int32)) (9 : Int32)))] [(.int (3 : Int32)), (.int (irm (p1 &&& (2147483647 : Int32)) (9 : Int32)))])) _
    refine XS.icmpYes X0.here hx rfl (pc0 := 36) (pc' := 43) rfl (hb hby d1_36) rfl (feq hc36).2 (by decide) (by decide) ?_
    show Steps p.tables e below (s₁.setTop (mkF m 43 #[.val (.int p1), .val (.int (irm (p1 &&& (2147483647 : Int32)) (9 : Int32)))] [])) _
    refine XS.iloadN X0.here hx rfl (hb hby d1_43) rfl ?_
    show Steps p.tables e below (s₁.setTop (mkF m 44 #[.val (.int p1), .val (.int (irm (p1 &&& (2147483647 : Int32)) (9 : Int32)))] [(.int (irm (p1 &&& (2147483647 : Int32)) (9 : Int32)))])) _
    refine XS.iconst X0.here hx rfl (hb hby d1_44) ?_
    show Steps p.tables e below (s₁.setTop (mkF m 45 #[.val (.int p1), .val (.int (irm (p1 &&& (2147483647 : Int32)) (9 : Int32)))] [(.int (4 : Int32)), (.int (irm (p1 &&& (2147483647 : Int32)) (9 : Int32)))])) _
    refine XS.icmpYes X0.here hx rfl (pc0 := 45) (pc' := 52) rfl (hb hby d1_45) rfl (feq hc45).2 (by decide) (by decide) ?_
    show Steps p.tables e below (s₁.setTop (mkF m 52 #[.val (.int p1), .val (.int (irm (p1 &&& (2147483647 : Int32)) (9 : Int32)))] [])) _
    refine XS.iloadN X0.here hx rfl (hb hby d1_52) rfl ?_
    show Steps p.tables e below (s₁.setTop (mkF m 53 #[.val (.int p1), .val (.int (irm (p1 &&& (2147483647 : Int32)) (9 : Int32)))] [(.int (irm (p1 &&& (2147483647 : Int32)) (9 : Int32)))])) _
    refine XS.iconst X0.here hx rfl (hb hby d1_53) ?_
    show Steps p.tables e below (s₁.setTop (mkF m 54 #[.val (.int p1), .val (.int (irm (p1 &&& (2147483647 : Int32)) (9 : Int32)))] [(.int (5 : Int32)), (.int (irm (p1 &&& (2147483647 : Int32)) (9 : Int32)))])) _
    refine XS.icmpYes X0.here hx rfl (pc0 := 54) (pc' := 61) rfl (hb hby d1_54) rfl (feq hc54).2 (by decide) (by decide) ?_
    show Steps p.tables e below (s₁.setTop (mkF m 61 #[.val (.int p1), .val (.int (irm (p1 &&& (2147483647 : Int32)) (9 : Int32)))] [])) _
    refine XS.iloadN X0.here hx rfl (hb hby d1_61) rfl ?_
    show Steps p.tables e below (s₁.setTop (mkF m 62 #[.val (.int p1), .val (.int (irm (p1 &&& (2147483647 : Int32)) (9 : Int32)))] [(.int (irm (p1 &&& (2147483647 : Int32)) (9 : Int32)))])) _
    refine XS.bipush X0.here hx rfl (hb hby d1_62) ?_
    show Steps p.tables e below (s₁.setTop (mkF m 64 #[.val (.int p1), .val (.int (irm (p1 &&& (2147483647 : Int32)) (9 : Int32)))] [(.int (6 : Int32)), (.int (irm (p1 &&& (2147483647 : Int32)) (9 : Int32)))])) _
    refine XS.icmpYes X0.here hx rfl (pc0 := 64) (pc' := 71) rfl (hb hby d1_64) rfl (feq hc64).2 (by decide) (by decide) ?_
    show Steps p.tables e below (s₁.setTop (mkF m 71 #[.val (.int p1), .val (.int (irm (p1 &&& (2147483647 : Int32)) (9 : Int32)))] [])) _
    refine XS.iloadN X0.here hx rfl (hb hby d1_71) rfl ?_
    show Steps p.tables e below (s₁.setTop (mkF m 72 #[.val (.int p1), .val (.int (irm (p1 &&& (2147483647 : Int32)) (9 : Int32)))] [(.int (irm (p1 &&& (2147483647 : Int32)) (9 : Int32)))])) _
    refine XS.bipush X0.here hx rfl (hb hby d1_72) ?_
    show Steps p.tables e below (s₁.setTop (mkF m 74 #[.val (.int p1), .val (.int (irm (p1 &&& (2147483647 : Int32)) (9 : Int32)))] [(.int (7 : Int32)), (.int (irm (p1 &&& (2147483647 : Int32)) (9 : Int32)))])) _
    refine XS.icmpYes X0.here hx rfl (pc0 := 74) (pc' := 81) rfl (hb hby d1_74) rfl (feq hc74).2 (by decide) (by decide) ?_
    show Steps p.tables e below (s₁.setTop (mkF m 81 #[.val (.int p1), .val (.int (irm (p1 &&& (2147483647 : Int32)) (9 : Int32)))] [])) _
    refine st101 _ ?_
    show Steps p.tables e below (T101.setTop (mkF m 84 #[.val (.int p1), .val (.int (irm (p1 &&& (2147483647 : Int32)) (9 : Int32)))] [(.ref w)])) _
    jvm_step X101.here [X101.here.top, hx, (hb hby d1_84), X101.method', Bd.returns, Value.isRef, FieldType.isReference]
    first | (intro acts; rw [hr _ acts rfl rfl rfl]) | rw [hr _ _ rfl rfl rfl]
    exact Steps.refl _
  · show QP (.ref w) h0 n0 _ T101.heap _
    rw [e101]
    exact ⟨rfl, N0, rfl⟩
theorem rm1 (l : Launch) (Z : State) (a0 : Array Value) (hw : ∀ d ∈ tables_1, d.before a0 Z = true) (ws : List Jvm.Cond) (p1 : Int32) (w : Addr) (h0 : Heap) (n0 : Nat) (O0 : Old Z n0 h0) (S : Sta Z Z.heap "com/example/postback/postback/PaymentStatus" (pk (irm (p1 &&& (2147483647 : Int32)) (9 : Int32))) "Lcom/example/postback/postback/PaymentStatus;" (.ref w)) :
    MetFree l (⟨"com/example/postback/postback/BuilderStatusPinLaw", "pick", "(I)Lcom/example/postback/postback/PaymentStatus;"⟩ : MethodName) (head1 (Jvm.Cond.code (⟨"com/example/postback/postback/BuilderStatusPinLaw", "pick", "(I)Lcom/example/postback/postback/PaymentStatus;"⟩ : MethodName) method_2_code 2 (some (.object "com/example/postback/postback/PaymentStatus")) :: ws) ({ frames := 0, cells := 0, slots := 0, locals := 0 } : Room)) (fun a_ U => a_ = #[(.int p1)] ∧ Z.Warmed39 U.vm ∧ U.heap = h0) (fun _ _ _ _ _ => True) (fun _ U o U' => ∃ v L, o = .returned v ∧ QP (.ref w) h0 n0 v U'.heap L ∧ FrameEnd U o U' L ({ frames := 0, cells := 0, slots := 0, locals := 0 } : Room).cells ({ frames := 0, cells := 0, slots := 0, locals := 0 } : Room).slots) := by
  by_cases k0 : (irm (p1 &&& (2147483647 : Int32)) (9 : Int32)) = 0
  · exact rm1_0 l Z a0 hw ws p1 w h0 n0 O0 ((show pk (irm (p1 &&& (2147483647 : Int32)) (9 : Int32)) = "PENDING" by unfold pk; rw [if_pos k0]) ▸ S)  k0
  by_cases k1 : (irm (p1 &&& (2147483647 : Int32)) (9 : Int32)) = 1
  · exact rm1_1 l Z a0 hw ws p1 w h0 n0 O0 ((show pk (irm (p1 &&& (2147483647 : Int32)) (9 : Int32)) = "CONFIRMING" by unfold pk; rw [if_neg k0, if_pos k1]) ▸ S) k0 k1
  by_cases k2 : (irm (p1 &&& (2147483647 : Int32)) (9 : Int32)) = 2
  · exact rm1_2 l Z a0 hw ws p1 w h0 n0 O0 ((show pk (irm (p1 &&& (2147483647 : Int32)) (9 : Int32)) = "PAID" by unfold pk; rw [if_neg k0, if_neg k1, if_pos k2]) ▸ S) k0 k1 k2
  by_cases k3 : (irm (p1 &&& (2147483647 : Int32)) (9 : Int32)) = 3
  · exact rm1_3 l Z a0 hw ws p1 w h0 n0 O0 ((show pk (irm (p1 &&& (2147483647 : Int32)) (9 : Int32)) = "MISMATCH" by unfold pk; rw [if_neg k0, if_neg k1, if_neg k2, if_pos k3]) ▸ S) k0 k1 k2 k3
  by_cases k4 : (irm (p1 &&& (2147483647 : Int32)) (9 : Int32)) = 4
  · exact rm1_4 l Z a0 hw ws p1 w h0 n0 O0 ((show pk (irm (p1 &&& (2147483647 : Int32)) (9 : Int32)) = "EXPIRED" by unfold pk; rw [if_neg k0, if_neg k1, if_neg k2, if_neg k3, if_pos k4]) ▸ S) k0 k1 k2 k3 k4
  by_cases k5 : (irm (p1 &&& (2147483647 : Int32)) (9 : Int32)) = 5
  · exact rm1_5 l Z a0 hw ws p1 w h0 n0 O0 ((show pk (irm (p1 &&& (2147483647 : Int32)) (9 : Int32)) = "FAILED" by unfold pk; rw [if_neg k0, if_neg k1, if_neg k2, if_neg k3, if_neg k4, if_pos k5]) ▸ S) k0 k1 k2 k3 k4 k5
  by_cases k6 : (irm (p1 &&& (2147483647 : Int32)) (9 : Int32)) = 6
  · exact rm1_6 l Z a0 hw ws p1 w h0 n0 O0 ((show pk (irm (p1 &&& (2147483647 : Int32)) (9 : Int32)) = "AWAITING_APPROVAL" by unfold pk; rw [if_neg k0, if_neg k1, if_neg k2, if_neg k3, if_neg k4, if_neg k5, if_pos k6]) ▸ S) k0 k1 k2 k3 k4 k5 k6
  by_cases k7 : (irm (p1 &&& (2147483647 : Int32)) (9 : Int32)) = 7
  · exact rm1_7 l Z a0 hw ws p1 w h0 n0 O0 ((show pk (irm (p1 &&& (2147483647 : Int32)) (9 : Int32)) = "REJECTED" by unfold pk; rw [if_neg k0, if_neg k1, if_neg k2, if_neg k3, if_neg k4, if_neg k5, if_neg k6, if_pos k7]) ▸ S) k0 k1 k2 k3 k4 k5 k6 k7
  · exact rm1_8 l Z a0 hw ws p1 w h0 n0 O0 ((show pk (irm (p1 &&& (2147483647 : Int32)) (9 : Int32)) = "UNKNOWN" by unfold pk; rw [if_neg k0, if_neg k1, if_neg k2, if_neg k3, if_neg k4, if_neg k5, if_neg k6, if_neg k7]) ▸ S) k0 k1 k2 k3 k4 k5 k6 k7
theorem d5_0 : decode jdk_31_method_11_code 0 = .ok (.aload_n 0, 1) := by decide +kernel
theorem d5_1 : decode jdk_31_method_11_code 1 = .ok (.ifnonnull 12, 3) := by decide +kernel
theorem d5_13 : decode jdk_31_method_11_code 13 = .ok (.aload_n 0, 1) := by decide +kernel
theorem d5_14 : decode jdk_31_method_11_code 14 = .ok (.areturn, 1) := by decide +kernel
theorem ef_RR_2 (m : MethodId) (x0 : Addr) (x1 : Addr) : entryFrame m #[(.ref x0), (.ref x1)] 2 = mkF m 0 #[.val (.ref x0), .val (.ref x1)] [] := by first | (simp [entryFrame, mkF, argsToLocals, Value.category]; done) | rfl
theorem pn_1 : plainName "java/util/Objects" = true := by first | (simp [plainName, overriddenIn]; done) | decide +kernel
set_option maxRecDepth 65536 in
set_option maxHeartbeats 40000000 in
theorem rm5 (l : Launch) (Z : State) (a0 : Array Value) (hw : ∀ d ∈ tables_1, d.before a0 Z = true) (ws : List Jvm.Cond) (a1 a2 : Addr) (h0 : Heap) (n0 : Nat) (O0 : Old Z n0 h0) :
    MetFree l (⟨"java/util/Objects", "requireNonNull", "(Ljava/lang/Object;Ljava/lang/String;)Ljava/lang/Object;"⟩ : MethodName) (head1 (Jvm.Cond.code (⟨"java/util/Objects", "requireNonNull", "(Ljava/lang/Object;Ljava/lang/String;)Ljava/lang/Object;"⟩ : MethodName) jdk_31_method_11_code 2 (some (.object "java/lang/Object")) :: ws) ({ frames := 0, cells := 0, slots := 0, locals := 0 } : Room)) (fun a_ U => a_ = #[(.ref a1), (.ref a2)] ∧ Z.Warmed39 U.vm ∧ U.heap = h0) (fun _ _ _ _ _ => True) (fun _ U o U' => ∃ v L, o = .returned v ∧ QP (.ref a1) h0 n0 v U'.heap L ∧ FrameEnd U o U' L ({ frames := 0, cells := 0, slots := 0, locals := 0 } : Room).cells ({ frames := 0, cells := 0, slots := 0, locals := 0 } : Room).slots) := by
  refine MetFree.of_bodySF (plainFor_of_name pn_1) hisR ?_
  intro p e s m args below meth c s₁ Bd hml0 hP hK
  obtain ⟨rfl, hZ, hh⟩ := hP
  have hx := Bd.exec
  have hby := Bd.bytes
  have hml : c.maxLocals = 2 := hml0
  have hown : s.vm.findClass "java/util/Objects" = some m.cls := findClass_of_methodNamed Bd.named
  have hnm := (name_of_methodNamed Bd.named Bd.method).1
  have X0 : Stand p l e ({ frames := 0, cells := 0, slots := 0, locals := 0 } : Room) s m #[(.ref a1), (.ref a2)] below meth c s₁ [] 0 0 := Stand.of_body Bd
  have e0 : s₁.heap = h0 := by rw [← hh, Bd.state]; rfl
  have N0 := Fr.nil n0
  have pre0 : ∀ tg, Steps p.tables e below (s₁.setTop (mkF m 0 #[.val (.ref a1), .val (.ref a2)] [])) tg → Steps p.tables e below (s₁.setTop (entryFrame m #[(.ref a1), (.ref a2)] 2)) tg := fun tg kq => castTop (ef_RR_2 m a1 a2) kq
  obtain ⟨fs, hr, hrun, hended, hW, hsame⟩ := X0.leave (v := some (.ref a1)) (fun h => by rw [Bd.returns] at h; cases h)
  refine ⟨_, _, pre0 _ ?_, hrun, hended, _, _, rfl, ?_, ⟨_, rfl⟩, hW, hsame.mono (by decide) (by decide)⟩
  · show Steps p.tables e below (s₁.setTop (mkF m 0 #[.val (.ref a1), .val (.ref a2)] [])) _
    refine XS.aloadN X0.here hx rfl (hb hby d5_0) rfl rfl ?_
    show Steps p.tables e below (s₁.setTop (mkF m 1 #[.val (.ref a1), .val (.ref a2)] [(.ref a1)])) _
    refine XS.ifnonnullYes X0.here hx rfl (pc0 := 1) (pc' := 13) rfl (hb hby d5_1) rfl (by decide) (by decide) ?_
    show Steps p.tables e below (s₁.setTop (mkF m 13 #[.val (.ref a1), .val (.ref a2)] [])) _
    refine XS.aloadN X0.here hx rfl (hb hby d5_13) rfl rfl ?_
    show Steps p.tables e below (s₁.setTop (mkF m 14 #[.val (.ref a1), .val (.ref a2)] [(.ref a1)])) _
    jvm_step X0.here [X0.here.top, hx, (hb hby d5_14), X0.method', Bd.returns, Value.isRef, FieldType.isReference]
    first | (intro acts; rw [hr _ acts rfl rfl rfl]) | rw [hr _ _ rfl rfl rfl]
    exact Steps.refl _
  · show QP (.ref a1) h0 n0 _ s₁.heap _
    rw [e0]
    exact ⟨rfl, N0, rfl⟩
def Q2 (Z : State) (a1 : Addr) (u : Value) (h0 : Heap) (n0 : Nat) (v : Option Value) (h : Heap) (L : List Loc) : Prop := v = none ∧ Fr n0 L ∧ Keep h0 h [a1] ∧ Bld Z h a1 u
theorem d2_0 : decode prog_6_method_1_code 0 = .ok (.aload_n 0, 1) := by decide +kernel
theorem d2_1 : decode prog_6_method_1_code 1 = .ok (.invokespecial 1, 3) := by decide +kernel
theorem d2_4 : decode prog_6_method_1_code 4 = .ok (.aload_n 0, 1) := by decide +kernel
theorem d2_5 : decode prog_6_method_1_code 5 = .ok (.getstatic 7, 3) := by decide +kernel
theorem d2_8 : decode prog_6_method_1_code 8 = .ok (.putfield 13, 3) := by decide +kernel
theorem d2_11 : decode prog_6_method_1_code 11 = .ok (.return_, 1) := by decide +kernel
theorem ef_R_1 (m : MethodId) (x0 : Addr) : entryFrame m #[(.ref x0)] 1 = mkF m 0 #[.val (.ref x0)] [] := by first | (simp [entryFrame, mkF, argsToLocals, Value.category]; done) | rfl
theorem pn_2 : plainName "com/example/postback/postback/Payment$Builder" = true := by first | (simp [plainName, overriddenIn]; done) | decide +kernel
set_option maxRecDepth 65536 in
set_option maxHeartbeats 40000000 in
theorem rm2 (l : Launch) (Z : State) (a0 : Array Value) (hw : ∀ d ∈ tables_1, d.before a0 Z = true) (ws : List Jvm.Cond) (a1 wU : Addr) (h0 : Heap) (n0 : Nat) (O0 : Old Z n0 h0) (B : Bld Z h0 a1 .null) (S_UNKNOWN : Sta Z Z.heap "com/example/postback/postback/PaymentStatus" "UNKNOWN" "Lcom/example/postback/postback/PaymentStatus;" (.ref wU)) (ge1 : n0 ≤ a1) :
    MetFree l (⟨"com/example/postback/postback/Payment$Builder", "<init>", "()V"⟩ : MethodName) (head1 (Jvm.Cond.code (⟨"com/example/postback/postback/Payment$Builder", "<init>", "()V"⟩ : MethodName) prog_6_method_1_code 1 none :: ws) ({ frames := 1, cells := 0, slots := 0, locals := 12 } : Room)) (fun a_ U => a_ = #[(.ref a1)] ∧ Z.Warmed39 U.vm ∧ U.heap = h0) (fun _ _ _ _ _ => True) (fun _ U o U' => ∃ v L, o = .returned v ∧ Q2 Z a1 (.ref wU) h0 n0 v U'.heap L ∧ FrameEnd U o U' L ({ frames := 1, cells := 0, slots := 0, locals := 12 } : Room).cells ({ frames := 1, cells := 0, slots := 0, locals := 12 } : Room).slots) := by
  refine MetFree.of_bodySF (plainFor_of_name pn_2) hisR ?_
  intro p e s m args below meth c s₁ Bd hml0 hP hK
  obtain ⟨rfl, hZ, hh⟩ := hP
  have hx := Bd.exec
  have hby := Bd.bytes
  have hml : c.maxLocals = 1 := hml0
  have hown : s.vm.findClass "com/example/postback/postback/Payment$Builder" = some m.cls := findClass_of_methodNamed Bd.named
  have hnm := (name_of_methodNamed Bd.named Bd.method).1
  have X0 : Stand p l e ({ frames := 1, cells := 0, slots := 0, locals := 12 } : Room) s m #[(.ref a1)] below meth c s₁ [] 0 0 := Stand.of_body Bd
  have e0 : s₁.heap = h0 := by rw [← hh, Bd.state]; rfl
  have N0 := Fr.nil n0
  have pre0 : ∀ tg, Steps p.tables e below (s₁.setTop (mkF m 0 #[.val (.ref a1)] [])) tg → Steps p.tables e below (s₁.setTop (entryFrame m #[(.ref a1)] 1)) tg := fun tg kq => castTop (ef_R_1 m a1) kq
  obtain ⟨Eq, Fq_kind, Fq_orderId, Fq_merchantOrderId, Fq_status, Fq_gatewayStatus, Fq_amount, Fq_currency, Fq_chain, Fq_txHash, Fq_occurredAt⟩ := B
  obtain ⟨T101, X101, e101, st101⟩ := initO X0 hx hZ hown (wi hw 16 rfl) (wi hw 17 rfl) (wi hw 18 rfl) e0 (g := (mkF m 1 #[.val (.ref a1)] [(.ref a1)])) rfl (by rw [hml]; rfl) rfl (hb hby d2_1) (by decide) (W := 0) (by show 2 * 0 + _ ≤ _; exact Nat.le_of_eq rfl) (by decide)
  obtain ⟨T102, X102, e102, st102⟩ := getS2 X101 hx hZ hown (host := "") (Or.inl (wi hw 19 rfl)) Via.refl e101 (S_UNKNOWN.ext O0.2) (g := (mkF m 5 #[.val (.ref a1)] [(.ref a1)])) rfl (hb hby d2_5)
  obtain ⟨T103, h103, X103, e103, W103, st103⟩ := putF X102 hx hZ hown (host := "") (Or.inl (wi hw 21 rfl)) Via.refl e102 Fq_status Eq (Or.inl (wi hw 22 rfl)) (wi hw 11 rfl) (ty := (.object "com/example/postback/postback/PaymentStatus")) (by decide) rfl rfl (g := (mkF m 8 #[.val (.ref a1)] [(.ref wU), (.ref a1)])) rfl rfl (hb hby d2_8)
  have Fw103 := Fq_status.same W103
  have O103 := O0.wr W103 ge1
  have KK103 : Keep h0 h103 [a1] := (Keep.refl h0 [a1]).wr W103 (Or.inl (List.mem_of_getElem? (i := 0) rfl))
  have N103 := Fr.snoc X103 N0 ge1
  have fE_a1_1_104 := (Eq.wr W103)
  have fPayment_Builder_kind_1_105 := (Fq_kind.other W103 (Or.inr (slot_ne (Or.inl (wi hw 55 rfl)) (Or.inl (wi hw 22 rfl)) (by decide) (t := (.object "com/example/postback/postback/PaymentKind")) (t' := (.object "com/example/postback/postback/PaymentStatus")) (by decide) (by decide))))
  have fPayment_Builder_orderId_1_106 := (Fq_orderId.other W103 (Or.inr (slot_ne (Or.inl (wi hw 59 rfl)) (Or.inl (wi hw 22 rfl)) (by decide) (t := (.object "java/lang/String")) (t' := (.object "com/example/postback/postback/PaymentStatus")) (by decide) (by decide))))
  have fPayment_Builder_merchantOrderId_1_107 := (Fq_merchantOrderId.other W103 (Or.inr (slot_ne (Or.inl (wi hw 63 rfl)) (Or.inl (wi hw 22 rfl)) (by decide) (t := (.object "java/lang/String")) (t' := (.object "com/example/postback/postback/PaymentStatus")) (by decide) (by decide))))
  have fPayment_Builder_gatewayStatus_1_108 := (Fq_gatewayStatus.other W103 (Or.inr (slot_ne (Or.inl (wi hw 70 rfl)) (Or.inl (wi hw 22 rfl)) (by decide) (t := (.object "java/lang/String")) (t' := (.object "com/example/postback/postback/PaymentStatus")) (by decide) (by decide))))
  have fPayment_Builder_amount_1_109 := (Fq_amount.other W103 (Or.inr (slot_ne (Or.inl (wi hw 74 rfl)) (Or.inl (wi hw 22 rfl)) (by decide) (t := (.object "java/lang/String")) (t' := (.object "com/example/postback/postback/PaymentStatus")) (by decide) (by decide))))
  have fPayment_Builder_currency_1_110 := (Fq_currency.other W103 (Or.inr (slot_ne (Or.inl (wi hw 78 rfl)) (Or.inl (wi hw 22 rfl)) (by decide) (t := (.object "java/lang/String")) (t' := (.object "com/example/postback/postback/PaymentStatus")) (by decide) (by decide))))
  have fPayment_Builder_chain_1_111 := (Fq_chain.other W103 (Or.inr (slot_ne (Or.inl (wi hw 82 rfl)) (Or.inl (wi hw 22 rfl)) (by decide) (t := (.object "java/lang/String")) (t' := (.object "com/example/postback/postback/PaymentStatus")) (by decide) (by decide))))
  have fPayment_Builder_txHash_1_112 := (Fq_txHash.other W103 (Or.inr (slot_ne (Or.inl (wi hw 86 rfl)) (Or.inl (wi hw 22 rfl)) (by decide) (t := (.object "java/lang/String")) (t' := (.object "com/example/postback/postback/PaymentStatus")) (by decide) (by decide))))
  have fPayment_Builder_occurredAt_1_113 := (Fq_occurredAt.other W103 (Or.inr (slot_ne (Or.inl (wi hw 90 rfl)) (Or.inl (wi hw 22 rfl)) (by decide) (t := (.object "java/lang/Long")) (t' := (.object "com/example/postback/postback/PaymentStatus")) (by decide) (by decide))))
  obtain ⟨fs, hr, hrun, hended, hW, hsame⟩ := X103.leave (v := none) (fun _ => rfl)
  refine ⟨_, _, pre0 _ ?_, hrun, hended, _, _, rfl, ?_, ⟨_, rfl⟩, hW, hsame.mono (by decide) (by decide)⟩
  · show Steps p.tables e below (s₁.setTop (mkF m 0 #[.val (.ref a1)] [])) _
    refine XS.aloadN X0.here hx rfl (hb hby d2_0) rfl rfl ?_
    show Steps p.tables e below (s₁.setTop (mkF m 1 #[.val (.ref a1)] [(.ref a1)])) _
    refine st101 _ ?_
    show Steps p.tables e below (T101.setTop (mkF m 4 #[.val (.ref a1)] [])) _
    refine XS.aloadN X101.here hx rfl (hb hby d2_4) rfl rfl ?_
    show Steps p.tables e below (T101.setTop (mkF m 5 #[.val (.ref a1)] [(.ref a1)])) _
    refine st102 _ ?_
    show Steps p.tables e below (T102.setTop (mkF m 8 #[.val (.ref a1)] [(.ref wU), (.ref a1)])) _
    refine st103 _ ?_
    show Steps p.tables e below (T103.setTop (mkF m 11 #[.val (.ref a1)] [])) _
    exact X103.returnOut hx Bd.returns (hb hby d2_11) hr
  · show Q2 Z a1 (.ref wU) h0 n0 _ T103.heap _
    rw [e103]
    exact ⟨rfl, N103, KK103, ⟨fE_a1_1_104, fPayment_Builder_kind_1_105, fPayment_Builder_orderId_1_106, fPayment_Builder_merchantOrderId_1_107, Fw103, fPayment_Builder_gatewayStatus_1_108, fPayment_Builder_amount_1_109, fPayment_Builder_currency_1_110, fPayment_Builder_chain_1_111, fPayment_Builder_txHash_1_112, fPayment_Builder_occurredAt_1_113⟩⟩
def Q4 (Z : State) (a1 : Addr) (u : Value) (h0 : Heap) (n0 : Nat) (v : Option Value) (h : Heap) (L : List Loc) : Prop := v = some (.ref a1) ∧ Fr n0 L ∧ Keep h0 h [a1] ∧ Bld Z h a1 u
theorem d4_0 : decode prog_6_method_5_code 0 = .ok (.aload_n 0, 1) := by decide +kernel
theorem d4_1 : decode prog_6_method_5_code 1 = .ok (.aload_n 1, 1) := by decide +kernel
theorem d4_2 : decode prog_6_method_5_code 2 = .ok (.ldc 33, 2) := by decide +kernel
theorem own_strw : ∀ d ∈ Bundle.stringAtoms, d ∈ tables_1 := by decide +kernel
theorem d4_4 : decode prog_6_method_5_code 4 = .ok (.invokestatic 34, 3) := by decide +kernel
theorem pd_0 : parseMethodDescriptor "(Ljava/lang/Object;Ljava/lang/String;)Ljava/lang/Object;" = some ⟨[(.object "java/lang/Object"), (.object "java/lang/String")], some (.object "java/lang/Object")⟩ := by decide +kernel
theorem d4_7 : decode prog_6_method_5_code 7 = .ok (.checkcast 8, 3) := by decide +kernel
theorem d4_10 : decode prog_6_method_5_code 10 = .ok (.putfield 13, 3) := by decide +kernel
theorem d4_13 : decode prog_6_method_5_code 13 = .ok (.aload_n 0, 1) := by decide +kernel
theorem d4_14 : decode prog_6_method_5_code 14 = .ok (.areturn, 1) := by decide +kernel
set_option maxRecDepth 65536 in
set_option maxHeartbeats 40000000 in
theorem rm4 (l : Launch) (Z : State) (a0 : Array Value) (hw : ∀ d ∈ tables_1, d.before a0 Z = true) (ws : List Jvm.Cond) (a1 a2 : Addr) (u0 : Value) (h0 : Heap) (n0 : Nat) (O0 : Old Z n0 h0) (B : Bld Z h0 a1 u0) (E2 : Exa Z Z.heap a2 "com/example/postback/postback/PaymentStatus") (ge1 : n0 ≤ a1) :
    MetFree l (⟨"com/example/postback/postback/Payment$Builder", "status", "(Lcom/example/postback/postback/PaymentStatus;)Lcom/example/postback/postback/Payment$Builder;"⟩ : MethodName) (head1 (Jvm.Cond.code (⟨"com/example/postback/postback/Payment$Builder", "status", "(Lcom/example/postback/postback/PaymentStatus;)Lcom/example/postback/postback/Payment$Builder;"⟩ : MethodName) prog_6_method_5_code 2 (some (.object "com/example/postback/postback/Payment$Builder")) :: ws) ({ frames := 1, cells := 2, slots := 28, locals := 14 } : Room)) (fun a_ U => a_ = #[(.ref a1), (.ref a2)] ∧ Z.Warmed39 U.vm ∧ U.heap = h0) (fun _ _ _ _ _ => True) (fun _ U o U' => ∃ v L, o = .returned v ∧ Q4 Z a1 (.ref a2) h0 n0 v U'.heap L ∧ ReturnedEndW U o U' L ({ frames := 1, cells := 2, slots := 28, locals := 14 } : Room).cells ({ frames := 1, cells := 2, slots := 28, locals := 14 } : Room).slots) := by
  refine MetFree.of_bodySF (plainFor_of_name pn_2) hisR ?_
  intro p e s m args below meth c s₁ Bd hml0 hP hK
  obtain ⟨rfl, hZ, hh⟩ := hP
  have hx := Bd.exec
  have hby := Bd.bytes
  have hml : c.maxLocals = 2 := hml0
  have hown : s.vm.findClass "com/example/postback/postback/Payment$Builder" = some m.cls := findClass_of_methodNamed Bd.named
  have hnm := (name_of_methodNamed Bd.named Bd.method).1
  have X0 : Stand p l e ({ frames := 1, cells := 2, slots := 28, locals := 14 } : Room) (s.setVm s.vm) m #[(.ref a1), (.ref a2)] below meth c s₁ [] 0 0 := Stand.of_body Bd
  have e0 : s₁.heap = h0 := by rw [← hh, Bd.state]; rfl
  have N0 := Fr.nil n0
  have pre0 : ∀ tg, Steps p.tables e below (s₁.setTop (mkF m 0 #[.val (.ref a1), .val (.ref a2)] [])) tg → Steps p.tables e below (s₁.setTop (entryFrame m #[(.ref a1), (.ref a2)] 2)) tg := fun tg kq => castTop (ef_RR_2 m a1 a2) kq
  have hS0 : s.Since s.vm h0.size := (State.WarmedH.refl s).since _
  have hk0 : h0.size ≤ h0.size := Nat.le_refl _
  obtain ⟨Eq, Fq_kind, Fq_orderId, Fq_merchantOrderId, Fq_status, Fq_gatewayStatus, Fq_amount, Fq_currency, Fq_chain, Fq_txHash, Fq_occurredAt⟩ := B
  obtain ⟨a101, T101, h101, k101, X101, e101, E101, hS101, hk101, hZ101, hown101, st101⟩ := ldcS (s := s) X0 hx hZ hown (wi hw 28 rfl) (fun d hd => hw d (own_strw d hd)) e0 hS0 hk0 (g := (mkF m 2 #[.val (.ref a1), .val (.ref a2)] [(.ref a2), (.ref a1)])) rfl (hb hby d4_2) (n := 24) (by decide) (by decide) (by decide) (by decide)
  have O101 := O0.ext E101
  have KK101 : Keep h0 h101 [a1] := (Keep.refl h0 [a1]).ext E101
  obtain ⟨_, _, ⟨T102, L102, k102, n102⟩, -, X102, ⟨Lc102, hQ102, l102, y102, z102⟩, st102⟩ := Jvm.LawKit.callS X101 hx (y := (⟨"java/util/Objects", "requireNonNull", "(Ljava/lang/Object;Ljava/lang/String;)Ljava/lang/Object;"⟩ : MethodName)) hown101 (mvT hZ101 (wi hw 36 rfl)) (mvT hZ101 (wi hw 37 rfl)) (mvT hZ101 (wi hw 38 rfl)) (mvT hZ101 (wi hw 39 rfl)) (by decide) (backOf (W := 1) (rm5 l Z a0 hw [] a2 a101 h101 n0 O101) hZ101 (wi hw 39 rfl) (wi hw 38 rfl) (by decide) (by decide)) (g := (mkF m 4 #[.val (.ref a1), .val (.ref a2)] [(.ref a101), (.ref a2), (.ref a1)])) rfl (by rw [hml]; rfl) (argsL := [(.ref a2), (.ref a101)]) (rest := [(.ref a1)]) (lenOf pd_0 rfl) rfl (by show 2 * 0 + _ ≤ _; exact Nat.le_of_eq rfl) (hb hby d4_4) (fun _ _ => ⟨rfl, e101, (by decide : 2 + 0 ≤ _), (by decide : 28 + 0 ≤ _)⟩)
  dsimp only [Pt.U, Pt.locs, Pt.cells, Pt.slots] at X102 l102 y102 z102 st102 hQ102
  subst l102 y102 z102
  obtain ⟨rfl, N102q, hh102⟩ := hQ102
  have e102 : T102.heap = h101 := hh102
  have N102 := Fr.app N0 N102q
  obtain ⟨T103, X103, e103, st103⟩ := castY X102 hx hZ101 hown101 (wi hw 40 rfl) e102 (Ins.self (E2.ext O101.2)) (g := (mkF m 7 #[.val (.ref a1), .val (.ref a2)] [(.ref a2), (.ref a1)])) rfl rfl (hb hby d4_7)
  have fE_a1_1_104 := (Eq.ext E101)
  have fPayment_Builder_status_1_105 := (Fq_status.ext E101)
  obtain ⟨T106, h106, X106, e106, W106, st106⟩ := putF X103 hx hZ101 hown101 (host := "") (Or.inl (wi hw 21 rfl)) Via.refl e103 fPayment_Builder_status_1_105 fE_a1_1_104 (Or.inl (wi hw 22 rfl)) (wi hw 11 rfl) (ty := (.object "com/example/postback/postback/PaymentStatus")) (by decide) rfl rfl (g := (mkF m 10 #[.val (.ref a1), .val (.ref a2)] [(.ref a2), (.ref a1)])) rfl rfl (hb hby d4_10)
  have Fw106 := fPayment_Builder_status_1_105.same W106
  have O106 := O101.wr W106 ge1
  have KK106 : Keep h0 h106 [a1] := KK101.wr W106 (Or.inl (List.mem_of_getElem? (i := 0) rfl))
  have N106 := Fr.snoc X106 N102 ge1
  have fE_a1_2_107 := (fE_a1_1_104.wr W106)
  have fPayment_Builder_kind_2_108 := ((Fq_kind.ext E101).other W106 (Or.inr (slot_ne (Or.inl (wi hw 55 rfl)) (Or.inl (wi hw 22 rfl)) (by decide) (t := (.object "com/example/postback/postback/PaymentKind")) (t' := (.object "com/example/postback/postback/PaymentStatus")) (by decide) (by decide))))
  have fPayment_Builder_orderId_2_109 := ((Fq_orderId.ext E101).other W106 (Or.inr (slot_ne (Or.inl (wi hw 59 rfl)) (Or.inl (wi hw 22 rfl)) (by decide) (t := (.object "java/lang/String")) (t' := (.object "com/example/postback/postback/PaymentStatus")) (by decide) (by decide))))
  have fPayment_Builder_merchantOrderId_2_110 := ((Fq_merchantOrderId.ext E101).other W106 (Or.inr (slot_ne (Or.inl (wi hw 63 rfl)) (Or.inl (wi hw 22 rfl)) (by decide) (t := (.object "java/lang/String")) (t' := (.object "com/example/postback/postback/PaymentStatus")) (by decide) (by decide))))
  have fPayment_Builder_gatewayStatus_2_111 := ((Fq_gatewayStatus.ext E101).other W106 (Or.inr (slot_ne (Or.inl (wi hw 70 rfl)) (Or.inl (wi hw 22 rfl)) (by decide) (t := (.object "java/lang/String")) (t' := (.object "com/example/postback/postback/PaymentStatus")) (by decide) (by decide))))
  have fPayment_Builder_amount_2_112 := ((Fq_amount.ext E101).other W106 (Or.inr (slot_ne (Or.inl (wi hw 74 rfl)) (Or.inl (wi hw 22 rfl)) (by decide) (t := (.object "java/lang/String")) (t' := (.object "com/example/postback/postback/PaymentStatus")) (by decide) (by decide))))
  have fPayment_Builder_currency_2_113 := ((Fq_currency.ext E101).other W106 (Or.inr (slot_ne (Or.inl (wi hw 78 rfl)) (Or.inl (wi hw 22 rfl)) (by decide) (t := (.object "java/lang/String")) (t' := (.object "com/example/postback/postback/PaymentStatus")) (by decide) (by decide))))
  have fPayment_Builder_chain_2_114 := ((Fq_chain.ext E101).other W106 (Or.inr (slot_ne (Or.inl (wi hw 82 rfl)) (Or.inl (wi hw 22 rfl)) (by decide) (t := (.object "java/lang/String")) (t' := (.object "com/example/postback/postback/PaymentStatus")) (by decide) (by decide))))
  have fPayment_Builder_txHash_2_115 := ((Fq_txHash.ext E101).other W106 (Or.inr (slot_ne (Or.inl (wi hw 86 rfl)) (Or.inl (wi hw 22 rfl)) (by decide) (t := (.object "java/lang/String")) (t' := (.object "com/example/postback/postback/PaymentStatus")) (by decide) (by decide))))
  have fPayment_Builder_occurredAt_2_116 := ((Fq_occurredAt.ext E101).other W106 (Or.inr (slot_ne (Or.inl (wi hw 90 rfl)) (Or.inl (wi hw 22 rfl)) (by decide) (t := (.object "java/lang/Long")) (t' := (.object "com/example/postback/postback/PaymentStatus")) (by decide) (by decide))))
  obtain ⟨fs, hr, hrun, hended, hREW⟩ := X106.leaveW hS101 (by rw [e106]; exact (Nat.le_trans hk101 (Keep.of_wr W106).1)) (v := some (.ref a1)) (fun h => by rw [Bd.returns] at h; cases h)
  refine ⟨_, _, pre0 _ ?_, hrun, hended, _, _, rfl, ?_, hREW.1, hREW.2.1, hREW.2.2.1, hREW.2.2.2.mono (by decide) (by decide)⟩
  · show Steps p.tables e below (s₁.setTop (mkF m 0 #[.val (.ref a1), .val (.ref a2)] [])) _
    refine XS.aloadN X0.here hx rfl (hb hby d4_0) rfl rfl ?_
    show Steps p.tables e below (s₁.setTop (mkF m 1 #[.val (.ref a1), .val (.ref a2)] [(.ref a1)])) _
    refine XS.aloadN X0.here hx rfl (hb hby d4_1) rfl rfl ?_
    show Steps p.tables e below (s₁.setTop (mkF m 2 #[.val (.ref a1), .val (.ref a2)] [(.ref a2), (.ref a1)])) _
    refine st101 _ ?_
    show Steps p.tables e below (T101.setTop (mkF m 4 #[.val (.ref a1), .val (.ref a2)] [(.ref a101), (.ref a2), (.ref a1)])) _
    refine st102 _ ?_
    show Steps p.tables e below (T102.setTop (mkF m 7 #[.val (.ref a1), .val (.ref a2)] [(.ref a2), (.ref a1)])) _
    refine st103 _ ?_
    show Steps p.tables e below (T103.setTop (mkF m 10 #[.val (.ref a1), .val (.ref a2)] [(.ref a2), (.ref a1)])) _
    refine st106 _ ?_
    show Steps p.tables e below (T106.setTop (mkF m 13 #[.val (.ref a1), .val (.ref a2)] [])) _
    refine XS.aloadN X106.here hx rfl (hb hby d4_13) rfl rfl ?_
    show Steps p.tables e below (T106.setTop (mkF m 14 #[.val (.ref a1), .val (.ref a2)] [(.ref a1)])) _
    jvm_step X106.here [X106.here.top, hx, (hb hby d4_14), X106.method', Bd.returns, Value.isRef, FieldType.isReference]
    first | (intro acts; rw [hr _ acts rfl rfl rfl]) | rw [hr _ _ rfl rfl rfl]
    exact Steps.refl _
  · show Q4 Z a1 (.ref a2) h0 n0 _ T106.heap _
    rw [e106]
    exact ⟨rfl, N106, KK106, ⟨fE_a1_2_107, fPayment_Builder_kind_2_108, fPayment_Builder_orderId_2_109, fPayment_Builder_merchantOrderId_2_110, Fw106, fPayment_Builder_gatewayStatus_2_111, fPayment_Builder_amount_2_112, fPayment_Builder_currency_2_113, fPayment_Builder_chain_2_114, fPayment_Builder_txHash_2_115, fPayment_Builder_occurredAt_2_116⟩⟩
def Q7 (Z : State) (a1 : Addr) (u : Value) (h0 : Heap) (n0 : Nat) (v : Option Value) (h : Heap) (L : List Loc) : Prop := v = none ∧ Fr n0 L ∧ Keep h0 h [a1] ∧ Pay Z h a1 u
theorem d7_0 : decode prog_5_method_1_code 0 = .ok (.aload_n 0, 1) := by decide +kernel
theorem d7_1 : decode prog_5_method_1_code 1 = .ok (.invokespecial 1, 3) := by decide +kernel
theorem d7_4 : decode prog_5_method_1_code 4 = .ok (.aload_n 0, 1) := by decide +kernel
theorem d7_5 : decode prog_5_method_1_code 5 = .ok (.aload_n 1, 1) := by decide +kernel
theorem d7_6 : decode prog_5_method_1_code 6 = .ok (.getfield 7, 3) := by decide +kernel
theorem d7_9 : decode prog_5_method_1_code 9 = .ok (.putfield 13, 3) := by decide +kernel
theorem d7_12 : decode prog_5_method_1_code 12 = .ok (.aload_n 0, 1) := by decide +kernel
theorem d7_13 : decode prog_5_method_1_code 13 = .ok (.aload_n 1, 1) := by decide +kernel
theorem d7_14 : decode prog_5_method_1_code 14 = .ok (.getfield 16, 3) := by decide +kernel
theorem d7_17 : decode prog_5_method_1_code 17 = .ok (.putfield 20, 3) := by decide +kernel
theorem d7_20 : decode prog_5_method_1_code 20 = .ok (.aload_n 0, 1) := by decide +kernel
theorem d7_21 : decode prog_5_method_1_code 21 = .ok (.aload_n 1, 1) := by decide +kernel
theorem d7_22 : decode prog_5_method_1_code 22 = .ok (.getfield 21, 3) := by decide +kernel
theorem d7_25 : decode prog_5_method_1_code 25 = .ok (.putfield 24, 3) := by decide +kernel
theorem d7_28 : decode prog_5_method_1_code 28 = .ok (.aload_n 0, 1) := by decide +kernel
theorem d7_29 : decode prog_5_method_1_code 29 = .ok (.aload_n 1, 1) := by decide +kernel
theorem d7_30 : decode prog_5_method_1_code 30 = .ok (.getfield 25, 3) := by decide +kernel
theorem d7_33 : decode prog_5_method_1_code 33 = .ok (.putfield 29, 3) := by decide +kernel
theorem d7_36 : decode prog_5_method_1_code 36 = .ok (.aload_n 0, 1) := by decide +kernel
theorem d7_37 : decode prog_5_method_1_code 37 = .ok (.aload_n 1, 1) := by decide +kernel
theorem d7_38 : decode prog_5_method_1_code 38 = .ok (.getfield 30, 3) := by decide +kernel
theorem d7_41 : decode prog_5_method_1_code 41 = .ok (.putfield 33, 3) := by decide +kernel
theorem d7_44 : decode prog_5_method_1_code 44 = .ok (.aload_n 0, 1) := by decide +kernel
theorem d7_45 : decode prog_5_method_1_code 45 = .ok (.aload_n 1, 1) := by decide +kernel
theorem d7_46 : decode prog_5_method_1_code 46 = .ok (.getfield 34, 3) := by decide +kernel
theorem d7_49 : decode prog_5_method_1_code 49 = .ok (.putfield 37, 3) := by decide +kernel
theorem d7_52 : decode prog_5_method_1_code 52 = .ok (.aload_n 0, 1) := by decide +kernel
theorem d7_53 : decode prog_5_method_1_code 53 = .ok (.aload_n 1, 1) := by decide +kernel
theorem d7_54 : decode prog_5_method_1_code 54 = .ok (.getfield 38, 3) := by decide +kernel
theorem d7_57 : decode prog_5_method_1_code 57 = .ok (.putfield 41, 3) := by decide +kernel
theorem d7_60 : decode prog_5_method_1_code 60 = .ok (.aload_n 0, 1) := by decide +kernel
theorem d7_61 : decode prog_5_method_1_code 61 = .ok (.aload_n 1, 1) := by decide +kernel
theorem d7_62 : decode prog_5_method_1_code 62 = .ok (.getfield 42, 3) := by decide +kernel
theorem d7_65 : decode prog_5_method_1_code 65 = .ok (.putfield 45, 3) := by decide +kernel
theorem d7_68 : decode prog_5_method_1_code 68 = .ok (.aload_n 0, 1) := by decide +kernel
theorem d7_69 : decode prog_5_method_1_code 69 = .ok (.aload_n 1, 1) := by decide +kernel
theorem d7_70 : decode prog_5_method_1_code 70 = .ok (.getfield 46, 3) := by decide +kernel
theorem d7_73 : decode prog_5_method_1_code 73 = .ok (.putfield 49, 3) := by decide +kernel
theorem d7_76 : decode prog_5_method_1_code 76 = .ok (.aload_n 0, 1) := by decide +kernel
theorem d7_77 : decode prog_5_method_1_code 77 = .ok (.aload_n 1, 1) := by decide +kernel
theorem d7_78 : decode prog_5_method_1_code 78 = .ok (.getfield 50, 3) := by decide +kernel
theorem d7_81 : decode prog_5_method_1_code 81 = .ok (.putfield 54, 3) := by decide +kernel
theorem d7_84 : decode prog_5_method_1_code 84 = .ok (.return_, 1) := by decide +kernel
theorem pn_3 : plainName "com/example/postback/postback/Payment" = true := by first | (simp [plainName, overriddenIn]; done) | decide +kernel
set_option maxRecDepth 65536 in
set_option maxHeartbeats 40000000 in
theorem rm7 (l : Launch) (Z : State) (a0 : Array Value) (hw : ∀ d ∈ tables_1, d.before a0 Z = true) (ws : List Jvm.Cond) (a1 a2 w : Addr) (h0 : Heap) (n0 : Nat) (O0 : Old Z n0 h0) (P1 : Pay Z h0 a1 .null) (B : Bld Z h0 a2 (.ref w)) (hne : a2 ≠ a1) (ge1 : n0 ≤ a1) :
    MetFree l (⟨"com/example/postback/postback/Payment", "<init>", "(Lcom/example/postback/postback/Payment$Builder;)V"⟩ : MethodName) (head1 (Jvm.Cond.code (⟨"com/example/postback/postback/Payment", "<init>", "(Lcom/example/postback/postback/Payment$Builder;)V"⟩ : MethodName) prog_5_method_1_code 2 none :: ws) ({ frames := 1, cells := 0, slots := 0, locals := 12 } : Room)) (fun a_ U => a_ = #[(.ref a1), (.ref a2)] ∧ Z.Warmed39 U.vm ∧ U.heap = h0) (fun _ _ _ _ _ => True) (fun _ U o U' => ∃ v L, o = .returned v ∧ Q7 Z a1 (.ref w) h0 n0 v U'.heap L ∧ FrameEnd U o U' L ({ frames := 1, cells := 0, slots := 0, locals := 12 } : Room).cells ({ frames := 1, cells := 0, slots := 0, locals := 12 } : Room).slots) := by
  refine MetFree.of_bodySF (plainFor_of_name pn_3) hisR ?_
  intro p e s m args below meth c s₁ Bd hml0 hP hK
  obtain ⟨rfl, hZ, hh⟩ := hP
  have hx := Bd.exec
  have hby := Bd.bytes
  have hml : c.maxLocals = 2 := hml0
  have hown : s.vm.findClass "com/example/postback/postback/Payment" = some m.cls := findClass_of_methodNamed Bd.named
  have hnm := (name_of_methodNamed Bd.named Bd.method).1
  have X0 : Stand p l e ({ frames := 1, cells := 0, slots := 0, locals := 12 } : Room) s m #[(.ref a1), (.ref a2)] below meth c s₁ [] 0 0 := Stand.of_body Bd
  have e0 : s₁.heap = h0 := by rw [← hh, Bd.state]; rfl
  have N0 := Fr.nil n0
  have pre0 : ∀ tg, Steps p.tables e below (s₁.setTop (mkF m 0 #[.val (.ref a1), .val (.ref a2)] [])) tg → Steps p.tables e below (s₁.setTop (entryFrame m #[(.ref a1), (.ref a2)] 2)) tg := fun tg kq => castTop (ef_RR_2 m a1 a2) kq
  obtain ⟨Ep, Fp_kind, Fp_orderId, Fp_merchantOrderId, Fp_status, Fp_gatewayStatus, Fp_amount, Fp_currency, Fp_chain, Fp_txHash, Fp_occurredAt⟩ := P1
  obtain ⟨Eq, Fq_kind, Fq_orderId, Fq_merchantOrderId, Fq_status, Fq_gatewayStatus, Fq_amount, Fq_currency, Fq_chain, Fq_txHash, Fq_occurredAt⟩ := B
  obtain ⟨T101, X101, e101, st101⟩ := initO X0 hx hZ hown (wi hw 53 rfl) (wi hw 17 rfl) (wi hw 18 rfl) e0 (g := (mkF m 1 #[.val (.ref a1), .val (.ref a2)] [(.ref a1)])) rfl (by rw [hml]; rfl) rfl (hb hby d7_1) (by decide) (W := 0) (by show 2 * 0 + _ ≤ _; exact Nat.le_of_eq rfl) (by decide)
  obtain ⟨T102, X102, e102, st102⟩ := own_getFR X101 hx hZ hown (wi hw 54 rfl) e101 Fq_kind (g := (mkF m 6 #[.val (.ref a1), .val (.ref a2)] [(.ref a2), (.ref a1)])) rfl rfl (hb hby d7_6)
  obtain ⟨T103, h103, X103, e103, W103, st103⟩ := putF X102 hx hZ hown (host := "") (Or.inl (wi hw 56 rfl)) Via.refl e102 Fp_kind Ep (Or.inr ⟨(wi hw 57 rfl), rfl, hnm⟩) (wi hw 48 rfl) (ty := (.object "com/example/postback/postback/PaymentKind")) (by decide) rfl rfl (g := (mkF m 9 #[.val (.ref a1), .val (.ref a2)] [.null, (.ref a1)])) rfl rfl (hb hby d7_9)
  have Fw103 := Fp_kind.same W103
  have O103 := O0.wr W103 ge1
  have KK103 : Keep h0 h103 [a1] := (Keep.refl h0 [a1]).wr W103 (Or.inl (List.mem_of_getElem? (i := 0) rfl))
  have N103 := Fr.snoc X103 N0 ge1
  have fPayment_Builder_orderId_1_104 := (Fq_orderId.other W103 (Or.inl hne))
  obtain ⟨T105, X105, e105, st105⟩ := own_getFR X103 hx hZ hown (wi hw 58 rfl) e103 fPayment_Builder_orderId_1_104 (g := (mkF m 14 #[.val (.ref a1), .val (.ref a2)] [(.ref a2), (.ref a1)])) rfl rfl (hb hby d7_14)
  have fE_a1_1_106 := (Ep.wr W103)
  have fPayment_orderId_1_107 := (Fp_orderId.other W103 (Or.inr (slot_ne (Or.inr (wi hw 61 rfl)) (Or.inr (wi hw 57 rfl)) (by decide) (t := (.object "java/lang/String")) (t' := (.object "com/example/postback/postback/PaymentKind")) (by decide) (by decide))))
  obtain ⟨T108, h108, X108, e108, W108, st108⟩ := putF X105 hx hZ hown (host := "") (Or.inl (wi hw 60 rfl)) Via.refl e105 fPayment_orderId_1_107 fE_a1_1_106 (Or.inr ⟨(wi hw 61 rfl), rfl, hnm⟩) (wi hw 48 rfl) (ty := (.object "java/lang/String")) (by decide) rfl rfl (g := (mkF m 17 #[.val (.ref a1), .val (.ref a2)] [.null, (.ref a1)])) rfl rfl (hb hby d7_17)
  have Fw108 := fPayment_orderId_1_107.same W108
  have O108 := O103.wr W108 ge1
  have KK108 : Keep h0 h108 [a1] := KK103.wr W108 (Or.inl (List.mem_of_getElem? (i := 0) rfl))
  have N108 := Fr.snoc X108 N103 ge1
  have fPayment_Builder_merchantOrderId_2_109 := ((Fq_merchantOrderId.other W103 (Or.inl hne)).other W108 (Or.inl hne))
  obtain ⟨T110, X110, e110, st110⟩ := own_getFR X108 hx hZ hown (wi hw 62 rfl) e108 fPayment_Builder_merchantOrderId_2_109 (g := (mkF m 22 #[.val (.ref a1), .val (.ref a2)] [(.ref a2), (.ref a1)])) rfl rfl (hb hby d7_22)
  have fE_a1_2_111 := (fE_a1_1_106.wr W108)
  have fPayment_merchantOrderId_2_112 := ((Fp_merchantOrderId.other W103 (Or.inr (slot_ne (Or.inr (wi hw 65 rfl)) (Or.inr (wi hw 57 rfl)) (by decide) (t := (.object "java/lang/String")) (t' := (.object "com/example/postback/postback/PaymentKind")) (by decide) (by decide)))).other W108 (Or.inr (slot_ne (Or.inr (wi hw 65 rfl)) (Or.inr (wi hw 61 rfl)) (by decide) (t := (.object "java/lang/String")) (t' := (.object "java/lang/String")) (by decide) (by decide))))
  obtain ⟨T113, h113, X113, e113, W113, st113⟩ := putF X110 hx hZ hown (host := "") (Or.inl (wi hw 64 rfl)) Via.refl e110 fPayment_merchantOrderId_2_112 fE_a1_2_111 (Or.inr ⟨(wi hw 65 rfl), rfl, hnm⟩) (wi hw 48 rfl) (ty := (.object "java/lang/String")) (by decide) rfl rfl (g := (mkF m 25 #[.val (.ref a1), .val (.ref a2)] [.null, (.ref a1)])) rfl rfl (hb hby d7_25)
  have Fw113 := fPayment_merchantOrderId_2_112.same W113
  have O113 := O108.wr W113 ge1
  have KK113 : Keep h0 h113 [a1] := KK108.wr W113 (Or.inl (List.mem_of_getElem? (i := 0) rfl))
  have N113 := Fr.snoc X113 N108 ge1
  have fPayment_Builder_status_3_114 := (((Fq_status.other W103 (Or.inl hne)).other W108 (Or.inl hne)).other W113 (Or.inl hne))
  obtain ⟨T115, X115, e115, st115⟩ := own_getFR X113 hx hZ hown (wi hw 66 rfl) e113 fPayment_Builder_status_3_114 (g := (mkF m 30 #[.val (.ref a1), .val (.ref a2)] [(.ref a2), (.ref a1)])) rfl rfl (hb hby d7_30)
  have fE_a1_3_116 := (fE_a1_2_111.wr W113)
  have fPayment_status_3_117 := (((Fp_status.other W103 (Or.inr (slot_ne (Or.inr (wi hw 68 rfl)) (Or.inr (wi hw 57 rfl)) (by decide) (t := (.object "com/example/postback/postback/PaymentStatus")) (t' := (.object "com/example/postback/postback/PaymentKind")) (by decide) (by decide)))).other W108 (Or.inr (slot_ne (Or.inr (wi hw 68 rfl)) (Or.inr (wi hw 61 rfl)) (by decide) (t := (.object "com/example/postback/postback/PaymentStatus")) (t' := (.object "java/lang/String")) (by decide) (by decide)))).other W113 (Or.inr (slot_ne (Or.inr (wi hw 68 rfl)) (Or.inr (wi hw 65 rfl)) (by decide) (t := (.object "com/example/postback/postback/PaymentStatus")) (t' := (.object "java/lang/String")) (by decide) (by decide))))
  obtain ⟨T118, h118, X118, e118, W118, st118⟩ := putF X115 hx hZ hown (host := "") (Or.inl (wi hw 67 rfl)) Via.refl e115 fPayment_status_3_117 fE_a1_3_116 (Or.inr ⟨(wi hw 68 rfl), rfl, hnm⟩) (wi hw 48 rfl) (ty := (.object "com/example/postback/postback/PaymentStatus")) (by decide) rfl rfl (g := (mkF m 33 #[.val (.ref a1), .val (.ref a2)] [(.ref w), (.ref a1)])) rfl rfl (hb hby d7_33)
  have Fw118 := fPayment_status_3_117.same W118
  have O118 := O113.wr W118 ge1
  have KK118 : Keep h0 h118 [a1] := KK113.wr W118 (Or.inl (List.mem_of_getElem? (i := 0) rfl))
  have N118 := Fr.snoc X118 N113 ge1
  have fPayment_Builder_gatewayStatus_4_119 := ((((Fq_gatewayStatus.other W103 (Or.inl hne)).other W108 (Or.inl hne)).other W113 (Or.inl hne)).other W118 (Or.inl hne))
  obtain ⟨T120, X120, e120, st120⟩ := own_getFR X118 hx hZ hown (wi hw 69 rfl) e118 fPayment_Builder_gatewayStatus_4_119 (g := (mkF m 38 #[.val (.ref a1), .val (.ref a2)] [(.ref a2), (.ref a1)])) rfl rfl (hb hby d7_38)
  have fE_a1_4_121 := (fE_a1_3_116.wr W118)
  have fPayment_gatewayStatus_4_122 := ((((Fp_gatewayStatus.other W103 (Or.inr (slot_ne (Or.inr (wi hw 72 rfl)) (Or.inr (wi hw 57 rfl)) (by decide) (t := (.object "java/lang/String")) (t' := (.object "com/example/postback/postback/PaymentKind")) (by decide) (by decide)))).other W108 (Or.inr (slot_ne (Or.inr (wi hw 72 rfl)) (Or.inr (wi hw 61 rfl)) (by decide) (t := (.object "java/lang/String")) (t' := (.object "java/lang/String")) (by decide) (by decide)))).other W113 (Or.inr (slot_ne (Or.inr (wi hw 72 rfl)) (Or.inr (wi hw 65 rfl)) (by decide) (t := (.object "java/lang/String")) (t' := (.object "java/lang/String")) (by decide) (by decide)))).other W118 (Or.inr (slot_ne (Or.inr (wi hw 72 rfl)) (Or.inr (wi hw 68 rfl)) (by decide) (t := (.object "java/lang/String")) (t' := (.object "com/example/postback/postback/PaymentStatus")) (by decide) (by decide))))
  obtain ⟨T123, h123, X123, e123, W123, st123⟩ := putF X120 hx hZ hown (host := "") (Or.inl (wi hw 71 rfl)) Via.refl e120 fPayment_gatewayStatus_4_122 fE_a1_4_121 (Or.inr ⟨(wi hw 72 rfl), rfl, hnm⟩) (wi hw 48 rfl) (ty := (.object "java/lang/String")) (by decide) rfl rfl (g := (mkF m 41 #[.val (.ref a1), .val (.ref a2)] [.null, (.ref a1)])) rfl rfl (hb hby d7_41)
  have Fw123 := fPayment_gatewayStatus_4_122.same W123
  have O123 := O118.wr W123 ge1
  have KK123 : Keep h0 h123 [a1] := KK118.wr W123 (Or.inl (List.mem_of_getElem? (i := 0) rfl))
  have N123 := Fr.snoc X123 N118 ge1
  have fPayment_Builder_amount_5_124 := (((((Fq_amount.other W103 (Or.inl hne)).other W108 (Or.inl hne)).other W113 (Or.inl hne)).other W118 (Or.inl hne)).other W123 (Or.inl hne))
  obtain ⟨T125, X125, e125, st125⟩ := own_getFR X123 hx hZ hown (wi hw 73 rfl) e123 fPayment_Builder_amount_5_124 (g := (mkF m 46 #[.val (.ref a1), .val (.ref a2)] [(.ref a2), (.ref a1)])) rfl rfl (hb hby d7_46)
  have fE_a1_5_126 := (fE_a1_4_121.wr W123)
  have fPayment_amount_5_127 := (((((Fp_amount.other W103 (Or.inr (slot_ne (Or.inr (wi hw 76 rfl)) (Or.inr (wi hw 57 rfl)) (by decide) (t := (.object "java/lang/String")) (t' := (.object "com/example/postback/postback/PaymentKind")) (by decide) (by decide)))).other W108 (Or.inr (slot_ne (Or.inr (wi hw 76 rfl)) (Or.inr (wi hw 61 rfl)) (by decide) (t := (.object "java/lang/String")) (t' := (.object "java/lang/String")) (by decide) (by decide)))).other W113 (Or.inr (slot_ne (Or.inr (wi hw 76 rfl)) (Or.inr (wi hw 65 rfl)) (by decide) (t := (.object "java/lang/String")) (t' := (.object "java/lang/String")) (by decide) (by decide)))).other W118 (Or.inr (slot_ne (Or.inr (wi hw 76 rfl)) (Or.inr (wi hw 68 rfl)) (by decide) (t := (.object "java/lang/String")) (t' := (.object "com/example/postback/postback/PaymentStatus")) (by decide) (by decide)))).other W123 (Or.inr (slot_ne (Or.inr (wi hw 76 rfl)) (Or.inr (wi hw 72 rfl)) (by decide) (t := (.object "java/lang/String")) (t' := (.object "java/lang/String")) (by decide) (by decide))))
  obtain ⟨T128, h128, X128, e128, W128, st128⟩ := putF X125 hx hZ hown (host := "") (Or.inl (wi hw 75 rfl)) Via.refl e125 fPayment_amount_5_127 fE_a1_5_126 (Or.inr ⟨(wi hw 76 rfl), rfl, hnm⟩) (wi hw 48 rfl) (ty := (.object "java/lang/String")) (by decide) rfl rfl (g := (mkF m 49 #[.val (.ref a1), .val (.ref a2)] [.null, (.ref a1)])) rfl rfl (hb hby d7_49)
  have Fw128 := fPayment_amount_5_127.same W128
  have O128 := O123.wr W128 ge1
  have KK128 : Keep h0 h128 [a1] := KK123.wr W128 (Or.inl (List.mem_of_getElem? (i := 0) rfl))
  have N128 := Fr.snoc X128 N123 ge1
  have fPayment_Builder_currency_6_129 := ((((((Fq_currency.other W103 (Or.inl hne)).other W108 (Or.inl hne)).other W113 (Or.inl hne)).other W118 (Or.inl hne)).other W123 (Or.inl hne)).other W128 (Or.inl hne))
  obtain ⟨T130, X130, e130, st130⟩ := own_getFR X128 hx hZ hown (wi hw 77 rfl) e128 fPayment_Builder_currency_6_129 (g := (mkF m 54 #[.val (.ref a1), .val (.ref a2)] [(.ref a2), (.ref a1)])) rfl rfl (hb hby d7_54)
  have fE_a1_6_131 := (fE_a1_5_126.wr W128)
  have fPayment_currency_6_132 := ((((((Fp_currency.other W103 (Or.inr (slot_ne (Or.inr (wi hw 80 rfl)) (Or.inr (wi hw 57 rfl)) (by decide) (t := (.object "java/lang/String")) (t' := (.object "com/example/postback/postback/PaymentKind")) (by decide) (by decide)))).other W108 (Or.inr (slot_ne (Or.inr (wi hw 80 rfl)) (Or.inr (wi hw 61 rfl)) (by decide) (t := (.object "java/lang/String")) (t' := (.object "java/lang/String")) (by decide) (by decide)))).other W113 (Or.inr (slot_ne (Or.inr (wi hw 80 rfl)) (Or.inr (wi hw 65 rfl)) (by decide) (t := (.object "java/lang/String")) (t' := (.object "java/lang/String")) (by decide) (by decide)))).other W118 (Or.inr (slot_ne (Or.inr (wi hw 80 rfl)) (Or.inr (wi hw 68 rfl)) (by decide) (t := (.object "java/lang/String")) (t' := (.object "com/example/postback/postback/PaymentStatus")) (by decide) (by decide)))).other W123 (Or.inr (slot_ne (Or.inr (wi hw 80 rfl)) (Or.inr (wi hw 72 rfl)) (by decide) (t := (.object "java/lang/String")) (t' := (.object "java/lang/String")) (by decide) (by decide)))).other W128 (Or.inr (slot_ne (Or.inr (wi hw 80 rfl)) (Or.inr (wi hw 76 rfl)) (by decide) (t := (.object "java/lang/String")) (t' := (.object "java/lang/String")) (by decide) (by decide))))
  obtain ⟨T133, h133, X133, e133, W133, st133⟩ := putF X130 hx hZ hown (host := "") (Or.inl (wi hw 79 rfl)) Via.refl e130 fPayment_currency_6_132 fE_a1_6_131 (Or.inr ⟨(wi hw 80 rfl), rfl, hnm⟩) (wi hw 48 rfl) (ty := (.object "java/lang/String")) (by decide) rfl rfl (g := (mkF m 57 #[.val (.ref a1), .val (.ref a2)] [.null, (.ref a1)])) rfl rfl (hb hby d7_57)
  have Fw133 := fPayment_currency_6_132.same W133
  have O133 := O128.wr W133 ge1
  have KK133 : Keep h0 h133 [a1] := KK128.wr W133 (Or.inl (List.mem_of_getElem? (i := 0) rfl))
  have N133 := Fr.snoc X133 N128 ge1
  have fPayment_Builder_chain_7_134 := (((((((Fq_chain.other W103 (Or.inl hne)).other W108 (Or.inl hne)).other W113 (Or.inl hne)).other W118 (Or.inl hne)).other W123 (Or.inl hne)).other W128 (Or.inl hne)).other W133 (Or.inl hne))
  obtain ⟨T135, X135, e135, st135⟩ := own_getFR X133 hx hZ hown (wi hw 81 rfl) e133 fPayment_Builder_chain_7_134 (g := (mkF m 62 #[.val (.ref a1), .val (.ref a2)] [(.ref a2), (.ref a1)])) rfl rfl (hb hby d7_62)
  have fE_a1_7_136 := (fE_a1_6_131.wr W133)
  have fPayment_chain_7_137 := (((((((Fp_chain.other W103 (Or.inr (slot_ne (Or.inr (wi hw 84 rfl)) (Or.inr (wi hw 57 rfl)) (by decide) (t := (.object "java/lang/String")) (t' := (.object "com/example/postback/postback/PaymentKind")) (by decide) (by decide)))).other W108 (Or.inr (slot_ne (Or.inr (wi hw 84 rfl)) (Or.inr (wi hw 61 rfl)) (by decide) (t := (.object "java/lang/String")) (t' := (.object "java/lang/String")) (by decide) (by decide)))).other W113 (Or.inr (slot_ne (Or.inr (wi hw 84 rfl)) (Or.inr (wi hw 65 rfl)) (by decide) (t := (.object "java/lang/String")) (t' := (.object "java/lang/String")) (by decide) (by decide)))).other W118 (Or.inr (slot_ne (Or.inr (wi hw 84 rfl)) (Or.inr (wi hw 68 rfl)) (by decide) (t := (.object "java/lang/String")) (t' := (.object "com/example/postback/postback/PaymentStatus")) (by decide) (by decide)))).other W123 (Or.inr (slot_ne (Or.inr (wi hw 84 rfl)) (Or.inr (wi hw 72 rfl)) (by decide) (t := (.object "java/lang/String")) (t' := (.object "java/lang/String")) (by decide) (by decide)))).other W128 (Or.inr (slot_ne (Or.inr (wi hw 84 rfl)) (Or.inr (wi hw 76 rfl)) (by decide) (t := (.object "java/lang/String")) (t' := (.object "java/lang/String")) (by decide) (by decide)))).other W133 (Or.inr (slot_ne (Or.inr (wi hw 84 rfl)) (Or.inr (wi hw 80 rfl)) (by decide) (t := (.object "java/lang/String")) (t' := (.object "java/lang/String")) (by decide) (by decide))))
  obtain ⟨T138, h138, X138, e138, W138, st138⟩ := putF X135 hx hZ hown (host := "") (Or.inl (wi hw 83 rfl)) Via.refl e135 fPayment_chain_7_137 fE_a1_7_136 (Or.inr ⟨(wi hw 84 rfl), rfl, hnm⟩) (wi hw 48 rfl) (ty := (.object "java/lang/String")) (by decide) rfl rfl (g := (mkF m 65 #[.val (.ref a1), .val (.ref a2)] [.null, (.ref a1)])) rfl rfl (hb hby d7_65)
  have Fw138 := fPayment_chain_7_137.same W138
  have O138 := O133.wr W138 ge1
  have KK138 : Keep h0 h138 [a1] := KK133.wr W138 (Or.inl (List.mem_of_getElem? (i := 0) rfl))
  have N138 := Fr.snoc X138 N133 ge1
  have fPayment_Builder_txHash_8_139 := ((((((((Fq_txHash.other W103 (Or.inl hne)).other W108 (Or.inl hne)).other W113 (Or.inl hne)).other W118 (Or.inl hne)).other W123 (Or.inl hne)).other W128 (Or.inl hne)).other W133 (Or.inl hne)).other W138 (Or.inl hne))
  obtain ⟨T140, X140, e140, st140⟩ := own_getFR X138 hx hZ hown (wi hw 85 rfl) e138 fPayment_Builder_txHash_8_139 (g := (mkF m 70 #[.val (.ref a1), .val (.ref a2)] [(.ref a2), (.ref a1)])) rfl rfl (hb hby d7_70)
  have fE_a1_8_141 := (fE_a1_7_136.wr W138)
  have fPayment_txHash_8_142 := ((((((((Fp_txHash.other W103 (Or.inr (slot_ne (Or.inr (wi hw 88 rfl)) (Or.inr (wi hw 57 rfl)) (by decide) (t := (.object "java/lang/String")) (t' := (.object "com/example/postback/postback/PaymentKind")) (by decide) (by decide)))).other W108 (Or.inr (slot_ne (Or.inr (wi hw 88 rfl)) (Or.inr (wi hw 61 rfl)) (by decide) (t := (.object "java/lang/String")) (t' := (.object "java/lang/String")) (by decide) (by decide)))).other W113 (Or.inr (slot_ne (Or.inr (wi hw 88 rfl)) (Or.inr (wi hw 65 rfl)) (by decide) (t := (.object "java/lang/String")) (t' := (.object "java/lang/String")) (by decide) (by decide)))).other W118 (Or.inr (slot_ne (Or.inr (wi hw 88 rfl)) (Or.inr (wi hw 68 rfl)) (by decide) (t := (.object "java/lang/String")) (t' := (.object "com/example/postback/postback/PaymentStatus")) (by decide) (by decide)))).other W123 (Or.inr (slot_ne (Or.inr (wi hw 88 rfl)) (Or.inr (wi hw 72 rfl)) (by decide) (t := (.object "java/lang/String")) (t' := (.object "java/lang/String")) (by decide) (by decide)))).other W128 (Or.inr (slot_ne (Or.inr (wi hw 88 rfl)) (Or.inr (wi hw 76 rfl)) (by decide) (t := (.object "java/lang/String")) (t' := (.object "java/lang/String")) (by decide) (by decide)))).other W133 (Or.inr (slot_ne (Or.inr (wi hw 88 rfl)) (Or.inr (wi hw 80 rfl)) (by decide) (t := (.object "java/lang/String")) (t' := (.object "java/lang/String")) (by decide) (by decide)))).other W138 (Or.inr (slot_ne (Or.inr (wi hw 88 rfl)) (Or.inr (wi hw 84 rfl)) (by decide) (t := (.object "java/lang/String")) (t' := (.object "java/lang/String")) (by decide) (by decide))))
  obtain ⟨T143, h143, X143, e143, W143, st143⟩ := putF X140 hx hZ hown (host := "") (Or.inl (wi hw 87 rfl)) Via.refl e140 fPayment_txHash_8_142 fE_a1_8_141 (Or.inr ⟨(wi hw 88 rfl), rfl, hnm⟩) (wi hw 48 rfl) (ty := (.object "java/lang/String")) (by decide) rfl rfl (g := (mkF m 73 #[.val (.ref a1), .val (.ref a2)] [.null, (.ref a1)])) rfl rfl (hb hby d7_73)
  have Fw143 := fPayment_txHash_8_142.same W143
  have O143 := O138.wr W143 ge1
  have KK143 : Keep h0 h143 [a1] := KK138.wr W143 (Or.inl (List.mem_of_getElem? (i := 0) rfl))
  have N143 := Fr.snoc X143 N138 ge1
  have fPayment_Builder_occurredAt_9_144 := (((((((((Fq_occurredAt.other W103 (Or.inl hne)).other W108 (Or.inl hne)).other W113 (Or.inl hne)).other W118 (Or.inl hne)).other W123 (Or.inl hne)).other W128 (Or.inl hne)).other W133 (Or.inl hne)).other W138 (Or.inl hne)).other W143 (Or.inl hne))
  obtain ⟨T145, X145, e145, st145⟩ := own_getFR X143 hx hZ hown (wi hw 89 rfl) e143 fPayment_Builder_occurredAt_9_144 (g := (mkF m 78 #[.val (.ref a1), .val (.ref a2)] [(.ref a2), (.ref a1)])) rfl rfl (hb hby d7_78)
  have fE_a1_9_146 := (fE_a1_8_141.wr W143)
  have fPayment_occurredAt_9_147 := (((((((((Fp_occurredAt.other W103 (Or.inr (slot_ne (Or.inr (wi hw 92 rfl)) (Or.inr (wi hw 57 rfl)) (by decide) (t := (.object "java/lang/Long")) (t' := (.object "com/example/postback/postback/PaymentKind")) (by decide) (by decide)))).other W108 (Or.inr (slot_ne (Or.inr (wi hw 92 rfl)) (Or.inr (wi hw 61 rfl)) (by decide) (t := (.object "java/lang/Long")) (t' := (.object "java/lang/String")) (by decide) (by decide)))).other W113 (Or.inr (slot_ne (Or.inr (wi hw 92 rfl)) (Or.inr (wi hw 65 rfl)) (by decide) (t := (.object "java/lang/Long")) (t' := (.object "java/lang/String")) (by decide) (by decide)))).other W118 (Or.inr (slot_ne (Or.inr (wi hw 92 rfl)) (Or.inr (wi hw 68 rfl)) (by decide) (t := (.object "java/lang/Long")) (t' := (.object "com/example/postback/postback/PaymentStatus")) (by decide) (by decide)))).other W123 (Or.inr (slot_ne (Or.inr (wi hw 92 rfl)) (Or.inr (wi hw 72 rfl)) (by decide) (t := (.object "java/lang/Long")) (t' := (.object "java/lang/String")) (by decide) (by decide)))).other W128 (Or.inr (slot_ne (Or.inr (wi hw 92 rfl)) (Or.inr (wi hw 76 rfl)) (by decide) (t := (.object "java/lang/Long")) (t' := (.object "java/lang/String")) (by decide) (by decide)))).other W133 (Or.inr (slot_ne (Or.inr (wi hw 92 rfl)) (Or.inr (wi hw 80 rfl)) (by decide) (t := (.object "java/lang/Long")) (t' := (.object "java/lang/String")) (by decide) (by decide)))).other W138 (Or.inr (slot_ne (Or.inr (wi hw 92 rfl)) (Or.inr (wi hw 84 rfl)) (by decide) (t := (.object "java/lang/Long")) (t' := (.object "java/lang/String")) (by decide) (by decide)))).other W143 (Or.inr (slot_ne (Or.inr (wi hw 92 rfl)) (Or.inr (wi hw 88 rfl)) (by decide) (t := (.object "java/lang/Long")) (t' := (.object "java/lang/String")) (by decide) (by decide))))
  obtain ⟨T148, h148, X148, e148, W148, st148⟩ := putF X145 hx hZ hown (host := "") (Or.inl (wi hw 91 rfl)) Via.refl e145 fPayment_occurredAt_9_147 fE_a1_9_146 (Or.inr ⟨(wi hw 92 rfl), rfl, hnm⟩) (wi hw 48 rfl) (ty := (.object "java/lang/Long")) (by decide) rfl rfl (g := (mkF m 81 #[.val (.ref a1), .val (.ref a2)] [.null, (.ref a1)])) rfl rfl (hb hby d7_81)
  have Fw148 := fPayment_occurredAt_9_147.same W148
  have O148 := O143.wr W148 ge1
  have KK148 : Keep h0 h148 [a1] := KK143.wr W148 (Or.inl (List.mem_of_getElem? (i := 0) rfl))
  have N148 := Fr.snoc X148 N143 ge1
  have fE_a1_10_149 := (fE_a1_9_146.wr W148)
  have fPayment_kind_10_150 := (((((((((Fw103.other W108 (Or.inr (slot_ne (Or.inr (wi hw 57 rfl)) (Or.inr (wi hw 61 rfl)) (by decide) (t := (.object "com/example/postback/postback/PaymentKind")) (t' := (.object "java/lang/String")) (by decide) (by decide)))).other W113 (Or.inr (slot_ne (Or.inr (wi hw 57 rfl)) (Or.inr (wi hw 65 rfl)) (by decide) (t := (.object "com/example/postback/postback/PaymentKind")) (t' := (.object "java/lang/String")) (by decide) (by decide)))).other W118 (Or.inr (slot_ne (Or.inr (wi hw 57 rfl)) (Or.inr (wi hw 68 rfl)) (by decide) (t := (.object "com/example/postback/postback/PaymentKind")) (t' := (.object "com/example/postback/postback/PaymentStatus")) (by decide) (by decide)))).other W123 (Or.inr (slot_ne (Or.inr (wi hw 57 rfl)) (Or.inr (wi hw 72 rfl)) (by decide) (t := (.object "com/example/postback/postback/PaymentKind")) (t' := (.object "java/lang/String")) (by decide) (by decide)))).other W128 (Or.inr (slot_ne (Or.inr (wi hw 57 rfl)) (Or.inr (wi hw 76 rfl)) (by decide) (t := (.object "com/example/postback/postback/PaymentKind")) (t' := (.object "java/lang/String")) (by decide) (by decide)))).other W133 (Or.inr (slot_ne (Or.inr (wi hw 57 rfl)) (Or.inr (wi hw 80 rfl)) (by decide) (t := (.object "com/example/postback/postback/PaymentKind")) (t' := (.object "java/lang/String")) (by decide) (by decide)))).other W138 (Or.inr (slot_ne (Or.inr (wi hw 57 rfl)) (Or.inr (wi hw 84 rfl)) (by decide) (t := (.object "com/example/postback/postback/PaymentKind")) (t' := (.object "java/lang/String")) (by decide) (by decide)))).other W143 (Or.inr (slot_ne (Or.inr (wi hw 57 rfl)) (Or.inr (wi hw 88 rfl)) (by decide) (t := (.object "com/example/postback/postback/PaymentKind")) (t' := (.object "java/lang/String")) (by decide) (by decide)))).other W148 (Or.inr (slot_ne (Or.inr (wi hw 57 rfl)) (Or.inr (wi hw 92 rfl)) (by decide) (t := (.object "com/example/postback/postback/PaymentKind")) (t' := (.object "java/lang/Long")) (by decide) (by decide))))
  have fPayment_orderId_10_151 := ((((((((Fw108.other W113 (Or.inr (slot_ne (Or.inr (wi hw 61 rfl)) (Or.inr (wi hw 65 rfl)) (by decide) (t := (.object "java/lang/String")) (t' := (.object "java/lang/String")) (by decide) (by decide)))).other W118 (Or.inr (slot_ne (Or.inr (wi hw 61 rfl)) (Or.inr (wi hw 68 rfl)) (by decide) (t := (.object "java/lang/String")) (t' := (.object "com/example/postback/postback/PaymentStatus")) (by decide) (by decide)))).other W123 (Or.inr (slot_ne (Or.inr (wi hw 61 rfl)) (Or.inr (wi hw 72 rfl)) (by decide) (t := (.object "java/lang/String")) (t' := (.object "java/lang/String")) (by decide) (by decide)))).other W128 (Or.inr (slot_ne (Or.inr (wi hw 61 rfl)) (Or.inr (wi hw 76 rfl)) (by decide) (t := (.object "java/lang/String")) (t' := (.object "java/lang/String")) (by decide) (by decide)))).other W133 (Or.inr (slot_ne (Or.inr (wi hw 61 rfl)) (Or.inr (wi hw 80 rfl)) (by decide) (t := (.object "java/lang/String")) (t' := (.object "java/lang/String")) (by decide) (by decide)))).other W138 (Or.inr (slot_ne (Or.inr (wi hw 61 rfl)) (Or.inr (wi hw 84 rfl)) (by decide) (t := (.object "java/lang/String")) (t' := (.object "java/lang/String")) (by decide) (by decide)))).other W143 (Or.inr (slot_ne (Or.inr (wi hw 61 rfl)) (Or.inr (wi hw 88 rfl)) (by decide) (t := (.object "java/lang/String")) (t' := (.object "java/lang/String")) (by decide) (by decide)))).other W148 (Or.inr (slot_ne (Or.inr (wi hw 61 rfl)) (Or.inr (wi hw 92 rfl)) (by decide) (t := (.object "java/lang/String")) (t' := (.object "java/lang/Long")) (by decide) (by decide))))
  have fPayment_merchantOrderId_10_152 := (((((((Fw113.other W118 (Or.inr (slot_ne (Or.inr (wi hw 65 rfl)) (Or.inr (wi hw 68 rfl)) (by decide) (t := (.object "java/lang/String")) (t' := (.object "com/example/postback/postback/PaymentStatus")) (by decide) (by decide)))).other W123 (Or.inr (slot_ne (Or.inr (wi hw 65 rfl)) (Or.inr (wi hw 72 rfl)) (by decide) (t := (.object "java/lang/String")) (t' := (.object "java/lang/String")) (by decide) (by decide)))).other W128 (Or.inr (slot_ne (Or.inr (wi hw 65 rfl)) (Or.inr (wi hw 76 rfl)) (by decide) (t := (.object "java/lang/String")) (t' := (.object "java/lang/String")) (by decide) (by decide)))).other W133 (Or.inr (slot_ne (Or.inr (wi hw 65 rfl)) (Or.inr (wi hw 80 rfl)) (by decide) (t := (.object "java/lang/String")) (t' := (.object "java/lang/String")) (by decide) (by decide)))).other W138 (Or.inr (slot_ne (Or.inr (wi hw 65 rfl)) (Or.inr (wi hw 84 rfl)) (by decide) (t := (.object "java/lang/String")) (t' := (.object "java/lang/String")) (by decide) (by decide)))).other W143 (Or.inr (slot_ne (Or.inr (wi hw 65 rfl)) (Or.inr (wi hw 88 rfl)) (by decide) (t := (.object "java/lang/String")) (t' := (.object "java/lang/String")) (by decide) (by decide)))).other W148 (Or.inr (slot_ne (Or.inr (wi hw 65 rfl)) (Or.inr (wi hw 92 rfl)) (by decide) (t := (.object "java/lang/String")) (t' := (.object "java/lang/Long")) (by decide) (by decide))))
  have fPayment_status_10_153 := ((((((Fw118.other W123 (Or.inr (slot_ne (Or.inr (wi hw 68 rfl)) (Or.inr (wi hw 72 rfl)) (by decide) (t := (.object "com/example/postback/postback/PaymentStatus")) (t' := (.object "java/lang/String")) (by decide) (by decide)))).other W128 (Or.inr (slot_ne (Or.inr (wi hw 68 rfl)) (Or.inr (wi hw 76 rfl)) (by decide) (t := (.object "com/example/postback/postback/PaymentStatus")) (t' := (.object "java/lang/String")) (by decide) (by decide)))).other W133 (Or.inr (slot_ne (Or.inr (wi hw 68 rfl)) (Or.inr (wi hw 80 rfl)) (by decide) (t := (.object "com/example/postback/postback/PaymentStatus")) (t' := (.object "java/lang/String")) (by decide) (by decide)))).other W138 (Or.inr (slot_ne (Or.inr (wi hw 68 rfl)) (Or.inr (wi hw 84 rfl)) (by decide) (t := (.object "com/example/postback/postback/PaymentStatus")) (t' := (.object "java/lang/String")) (by decide) (by decide)))).other W143 (Or.inr (slot_ne (Or.inr (wi hw 68 rfl)) (Or.inr (wi hw 88 rfl)) (by decide) (t := (.object "com/example/postback/postback/PaymentStatus")) (t' := (.object "java/lang/String")) (by decide) (by decide)))).other W148 (Or.inr (slot_ne (Or.inr (wi hw 68 rfl)) (Or.inr (wi hw 92 rfl)) (by decide) (t := (.object "com/example/postback/postback/PaymentStatus")) (t' := (.object "java/lang/Long")) (by decide) (by decide))))
  have fPayment_gatewayStatus_10_154 := (((((Fw123.other W128 (Or.inr (slot_ne (Or.inr (wi hw 72 rfl)) (Or.inr (wi hw 76 rfl)) (by decide) (t := (.object "java/lang/String")) (t' := (.object "java/lang/String")) (by decide) (by decide)))).other W133 (Or.inr (slot_ne (Or.inr (wi hw 72 rfl)) (Or.inr (wi hw 80 rfl)) (by decide) (t := (.object "java/lang/String")) (t' := (.object "java/lang/String")) (by decide) (by decide)))).other W138 (Or.inr (slot_ne (Or.inr (wi hw 72 rfl)) (Or.inr (wi hw 84 rfl)) (by decide) (t := (.object "java/lang/String")) (t' := (.object "java/lang/String")) (by decide) (by decide)))).other W143 (Or.inr (slot_ne (Or.inr (wi hw 72 rfl)) (Or.inr (wi hw 88 rfl)) (by decide) (t := (.object "java/lang/String")) (t' := (.object "java/lang/String")) (by decide) (by decide)))).other W148 (Or.inr (slot_ne (Or.inr (wi hw 72 rfl)) (Or.inr (wi hw 92 rfl)) (by decide) (t := (.object "java/lang/String")) (t' := (.object "java/lang/Long")) (by decide) (by decide))))
  have fPayment_amount_10_155 := ((((Fw128.other W133 (Or.inr (slot_ne (Or.inr (wi hw 76 rfl)) (Or.inr (wi hw 80 rfl)) (by decide) (t := (.object "java/lang/String")) (t' := (.object "java/lang/String")) (by decide) (by decide)))).other W138 (Or.inr (slot_ne (Or.inr (wi hw 76 rfl)) (Or.inr (wi hw 84 rfl)) (by decide) (t := (.object "java/lang/String")) (t' := (.object "java/lang/String")) (by decide) (by decide)))).other W143 (Or.inr (slot_ne (Or.inr (wi hw 76 rfl)) (Or.inr (wi hw 88 rfl)) (by decide) (t := (.object "java/lang/String")) (t' := (.object "java/lang/String")) (by decide) (by decide)))).other W148 (Or.inr (slot_ne (Or.inr (wi hw 76 rfl)) (Or.inr (wi hw 92 rfl)) (by decide) (t := (.object "java/lang/String")) (t' := (.object "java/lang/Long")) (by decide) (by decide))))
  have fPayment_currency_10_156 := (((Fw133.other W138 (Or.inr (slot_ne (Or.inr (wi hw 80 rfl)) (Or.inr (wi hw 84 rfl)) (by decide) (t := (.object "java/lang/String")) (t' := (.object "java/lang/String")) (by decide) (by decide)))).other W143 (Or.inr (slot_ne (Or.inr (wi hw 80 rfl)) (Or.inr (wi hw 88 rfl)) (by decide) (t := (.object "java/lang/String")) (t' := (.object "java/lang/String")) (by decide) (by decide)))).other W148 (Or.inr (slot_ne (Or.inr (wi hw 80 rfl)) (Or.inr (wi hw 92 rfl)) (by decide) (t := (.object "java/lang/String")) (t' := (.object "java/lang/Long")) (by decide) (by decide))))
  have fPayment_chain_10_157 := ((Fw138.other W143 (Or.inr (slot_ne (Or.inr (wi hw 84 rfl)) (Or.inr (wi hw 88 rfl)) (by decide) (t := (.object "java/lang/String")) (t' := (.object "java/lang/String")) (by decide) (by decide)))).other W148 (Or.inr (slot_ne (Or.inr (wi hw 84 rfl)) (Or.inr (wi hw 92 rfl)) (by decide) (t := (.object "java/lang/String")) (t' := (.object "java/lang/Long")) (by decide) (by decide))))
  have fPayment_txHash_10_158 := (Fw143.other W148 (Or.inr (slot_ne (Or.inr (wi hw 88 rfl)) (Or.inr (wi hw 92 rfl)) (by decide) (t := (.object "java/lang/String")) (t' := (.object "java/lang/Long")) (by decide) (by decide))))
  obtain ⟨fs, hr, hrun, hended, hW, hsame⟩ := X148.leave (v := none) (fun _ => rfl)
  refine ⟨_, _, pre0 _ ?_, hrun, hended, _, _, rfl, ?_, ⟨_, rfl⟩, hW, hsame.mono (by decide) (by decide)⟩
  · show Steps p.tables e below (s₁.setTop (mkF m 0 #[.val (.ref a1), .val (.ref a2)] [])) _
    refine XS.aloadN X0.here hx rfl (hb hby d7_0) rfl rfl ?_
    show Steps p.tables e below (s₁.setTop (mkF m 1 #[.val (.ref a1), .val (.ref a2)] [(.ref a1)])) _
    refine st101 _ ?_
    show Steps p.tables e below (T101.setTop (mkF m 4 #[.val (.ref a1), .val (.ref a2)] [])) _
    refine XS.aloadN X101.here hx rfl (hb hby d7_4) rfl rfl ?_
    show Steps p.tables e below (T101.setTop (mkF m 5 #[.val (.ref a1), .val (.ref a2)] [(.ref a1)])) _
    refine XS.aloadN X101.here hx rfl (hb hby d7_5) rfl rfl ?_
    show Steps p.tables e below (T101.setTop (mkF m 6 #[.val (.ref a1), .val (.ref a2)] [(.ref a2), (.ref a1)])) _
    refine st102 _ ?_
    show Steps p.tables e below (T102.setTop (mkF m 9 #[.val (.ref a1), .val (.ref a2)] [.null, (.ref a1)])) _
    refine st103 _ ?_
    show Steps p.tables e below (T103.setTop (mkF m 12 #[.val (.ref a1), .val (.ref a2)] [])) _
    refine XS.aloadN X103.here hx rfl (hb hby d7_12) rfl rfl ?_
    show Steps p.tables e below (T103.setTop (mkF m 13 #[.val (.ref a1), .val (.ref a2)] [(.ref a1)])) _
    refine XS.aloadN X103.here hx rfl (hb hby d7_13) rfl rfl ?_
    show Steps p.tables e below (T103.setTop (mkF m 14 #[.val (.ref a1), .val (.ref a2)] [(.ref a2), (.ref a1)])) _
    refine st105 _ ?_
    show Steps p.tables e below (T105.setTop (mkF m 17 #[.val (.ref a1), .val (.ref a2)] [.null, (.ref a1)])) _
    refine st108 _ ?_
    show Steps p.tables e below (T108.setTop (mkF m 20 #[.val (.ref a1), .val (.ref a2)] [])) _
    refine XS.aloadN X108.here hx rfl (hb hby d7_20) rfl rfl ?_
    show Steps p.tables e below (T108.setTop (mkF m 21 #[.val (.ref a1), .val (.ref a2)] [(.ref a1)])) _
    refine XS.aloadN X108.here hx rfl (hb hby d7_21) rfl rfl ?_
    show Steps p.tables e below (T108.setTop (mkF m 22 #[.val (.ref a1), .val (.ref a2)] [(.ref a2), (.ref a1)])) _
    refine st110 _ ?_
    show Steps p.tables e below (T110.setTop (mkF m 25 #[.val (.ref a1), .val (.ref a2)] [.null, (.ref a1)])) _
    refine st113 _ ?_
    show Steps p.tables e below (T113.setTop (mkF m 28 #[.val (.ref a1), .val (.ref a2)] [])) _
    refine XS.aloadN X113.here hx rfl (hb hby d7_28) rfl rfl ?_
    show Steps p.tables e below (T113.setTop (mkF m 29 #[.val (.ref a1), .val (.ref a2)] [(.ref a1)])) _
    refine XS.aloadN X113.here hx rfl (hb hby d7_29) rfl rfl ?_
    show Steps p.tables e below (T113.setTop (mkF m 30 #[.val (.ref a1), .val (.ref a2)] [(.ref a2), (.ref a1)])) _
    refine st115 _ ?_
    show Steps p.tables e below (T115.setTop (mkF m 33 #[.val (.ref a1), .val (.ref a2)] [(.ref w), (.ref a1)])) _
    refine st118 _ ?_
    show Steps p.tables e below (T118.setTop (mkF m 36 #[.val (.ref a1), .val (.ref a2)] [])) _
    refine XS.aloadN X118.here hx rfl (hb hby d7_36) rfl rfl ?_
    show Steps p.tables e below (T118.setTop (mkF m 37 #[.val (.ref a1), .val (.ref a2)] [(.ref a1)])) _
    refine XS.aloadN X118.here hx rfl (hb hby d7_37) rfl rfl ?_
    show Steps p.tables e below (T118.setTop (mkF m 38 #[.val (.ref a1), .val (.ref a2)] [(.ref a2), (.ref a1)])) _
    refine st120 _ ?_
    show Steps p.tables e below (T120.setTop (mkF m 41 #[.val (.ref a1), .val (.ref a2)] [.null, (.ref a1)])) _
    refine st123 _ ?_
    show Steps p.tables e below (T123.setTop (mkF m 44 #[.val (.ref a1), .val (.ref a2)] [])) _
    refine XS.aloadN X123.here hx rfl (hb hby d7_44) rfl rfl ?_
    show Steps p.tables e below (T123.setTop (mkF m 45 #[.val (.ref a1), .val (.ref a2)] [(.ref a1)])) _
    refine XS.aloadN X123.here hx rfl (hb hby d7_45) rfl rfl ?_
    show Steps p.tables e below (T123.setTop (mkF m 46 #[.val (.ref a1), .val (.ref a2)] [(.ref a2), (.ref a1)])) _
    refine st125 _ ?_
    show Steps p.tables e below (T125.setTop (mkF m 49 #[.val (.ref a1), .val (.ref a2)] [.null, (.ref a1)])) _
    refine st128 _ ?_
    show Steps p.tables e below (T128.setTop (mkF m 52 #[.val (.ref a1), .val (.ref a2)] [])) _
    refine XS.aloadN X128.here hx rfl (hb hby d7_52) rfl rfl ?_
    show Steps p.tables e below (T128.setTop (mkF m 53 #[.val (.ref a1), .val (.ref a2)] [(.ref a1)])) _
    refine XS.aloadN X128.here hx rfl (hb hby d7_53) rfl rfl ?_
    show Steps p.tables e below (T128.setTop (mkF m 54 #[.val (.ref a1), .val (.ref a2)] [(.ref a2), (.ref a1)])) _
    refine st130 _ ?_
    show Steps p.tables e below (T130.setTop (mkF m 57 #[.val (.ref a1), .val (.ref a2)] [.null, (.ref a1)])) _
    refine st133 _ ?_
    show Steps p.tables e below (T133.setTop (mkF m 60 #[.val (.ref a1), .val (.ref a2)] [])) _
    refine XS.aloadN X133.here hx rfl (hb hby d7_60) rfl rfl ?_
    show Steps p.tables e below (T133.setTop (mkF m 61 #[.val (.ref a1), .val (.ref a2)] [(.ref a1)])) _
    refine XS.aloadN X133.here hx rfl (hb hby d7_61) rfl rfl ?_
    show Steps p.tables e below (T133.setTop (mkF m 62 #[.val (.ref a1), .val (.ref a2)] [(.ref a2), (.ref a1)])) _
    refine st135 _ ?_
    show Steps p.tables e below (T135.setTop (mkF m 65 #[.val (.ref a1), .val (.ref a2)] [.null, (.ref a1)])) _
    refine st138 _ ?_
    show Steps p.tables e below (T138.setTop (mkF m 68 #[.val (.ref a1), .val (.ref a2)] [])) _
    refine XS.aloadN X138.here hx rfl (hb hby d7_68) rfl rfl ?_
    show Steps p.tables e below (T138.setTop (mkF m 69 #[.val (.ref a1), .val (.ref a2)] [(.ref a1)])) _
    refine XS.aloadN X138.here hx rfl (hb hby d7_69) rfl rfl ?_
    show Steps p.tables e below (T138.setTop (mkF m 70 #[.val (.ref a1), .val (.ref a2)] [(.ref a2), (.ref a1)])) _
    refine st140 _ ?_
    show Steps p.tables e below (T140.setTop (mkF m 73 #[.val (.ref a1), .val (.ref a2)] [.null, (.ref a1)])) _
    refine st143 _ ?_
    show Steps p.tables e below (T143.setTop (mkF m 76 #[.val (.ref a1), .val (.ref a2)] [])) _
    refine XS.aloadN X143.here hx rfl (hb hby d7_76) rfl rfl ?_
    show Steps p.tables e below (T143.setTop (mkF m 77 #[.val (.ref a1), .val (.ref a2)] [(.ref a1)])) _
    refine XS.aloadN X143.here hx rfl (hb hby d7_77) rfl rfl ?_
    show Steps p.tables e below (T143.setTop (mkF m 78 #[.val (.ref a1), .val (.ref a2)] [(.ref a2), (.ref a1)])) _
    refine st145 _ ?_
    show Steps p.tables e below (T145.setTop (mkF m 81 #[.val (.ref a1), .val (.ref a2)] [.null, (.ref a1)])) _
    refine st148 _ ?_
    show Steps p.tables e below (T148.setTop (mkF m 84 #[.val (.ref a1), .val (.ref a2)] [])) _
    exact X148.returnOut hx Bd.returns (hb hby d7_84) hr
  · show Q7 Z a1 (.ref w) h0 n0 _ T148.heap _
    rw [e148]
    exact ⟨rfl, N148, KK148, ⟨fE_a1_10_149, fPayment_kind_10_150, fPayment_orderId_10_151, fPayment_merchantOrderId_10_152, fPayment_status_10_153, fPayment_gatewayStatus_10_154, fPayment_amount_10_155, fPayment_currency_10_156, fPayment_chain_10_157, fPayment_txHash_10_158, Fw148⟩⟩
def Q6 (Z : State) (u : Value) (h0 : Heap) (n0 : Nat) (v : Option Value) (h : Heap) (L : List Loc) : Prop := ∃ b : Addr, v = some (.ref b) ∧ Fr n0 L ∧ Keep h0 h [] ∧ Pay Z h b u
theorem d6_0 : decode prog_6_method_12_code 0 = .ok (.new 44, 3) := by decide +kernel
theorem d6_3 : decode prog_6_method_12_code 3 = .ok (.dup, 1) := by decide +kernel
theorem d6_4 : decode prog_6_method_12_code 4 = .ok (.aload_n 0, 1) := by decide +kernel
theorem d6_5 : decode prog_6_method_12_code 5 = .ok (.invokespecial 86, 3) := by decide +kernel
theorem pd_1 : parseMethodDescriptor "(Lcom/example/postback/postback/Payment$Builder;)V" = some ⟨[(.object "com/example/postback/postback/Payment$Builder")], none⟩ := by decide +kernel
theorem d6_8 : decode prog_6_method_12_code 8 = .ok (.areturn, 1) := by decide +kernel
set_option maxRecDepth 65536 in
set_option maxHeartbeats 40000000 in
theorem rm6 (l : Launch) (Z : State) (a0 : Array Value) (hw : ∀ d ∈ tables_1, d.before a0 Z = true) (ws : List Jvm.Cond) (a1 w : Addr) (h0 : Heap) (n0 : Nat) (O0 : Old Z n0 h0) (B : Bld Z h0 a1 (.ref w)) :
    MetFree l (⟨"com/example/postback/postback/Payment$Builder", "build", "()Lcom/example/postback/postback/Payment;"⟩ : MethodName) (head1 (Jvm.Cond.code (⟨"com/example/postback/postback/Payment$Builder", "build", "()Lcom/example/postback/postback/Payment;"⟩ : MethodName) prog_6_method_12_code 1 (some (.object "com/example/postback/postback/Payment")) :: ws) ({ frames := 2, cells := 1, slots := 10, locals := 26 } : Room)) (fun a_ U => a_ = #[(.ref a1)] ∧ Z.Warmed39 U.vm ∧ U.heap = h0) (fun _ _ _ _ _ => True) (fun _ U o U' => ∃ v L, o = .returned v ∧ Q6 Z (.ref w) h0 n0 v U'.heap L ∧ FrameEnd U o U' L ({ frames := 2, cells := 1, slots := 10, locals := 26 } : Room).cells ({ frames := 2, cells := 1, slots := 10, locals := 26 } : Room).slots) := by
  refine MetFree.of_bodySF (plainFor_of_name pn_2) hisR ?_
  intro p e s m args below meth c s₁ Bd hml0 hP hK
  obtain ⟨rfl, hZ, hh⟩ := hP
  have hx := Bd.exec
  have hby := Bd.bytes
  have hml : c.maxLocals = 1 := hml0
  have hown : s.vm.findClass "com/example/postback/postback/Payment$Builder" = some m.cls := findClass_of_methodNamed Bd.named
  have hnm := (name_of_methodNamed Bd.named Bd.method).1
  have X0 : Stand p l e ({ frames := 2, cells := 1, slots := 10, locals := 26 } : Room) s m #[(.ref a1)] below meth c s₁ [] 0 0 := Stand.of_body Bd
  have e0 : s₁.heap = h0 := by rw [← hh, Bd.state]; rfl
  have N0 := Fr.nil n0
  have pre0 : ∀ tg, Steps p.tables e below (s₁.setTop (mkF m 0 #[.val (.ref a1)] [])) tg → Steps p.tables e below (s₁.setTop (entryFrame m #[(.ref a1)] 1)) tg := fun tg kq => castTop (ef_R_1 m a1) kq
  obtain ⟨Eq, Fq_kind, Fq_orderId, Fq_merchantOrderId, Fq_status, Fq_gatewayStatus, Fq_amount, Fq_currency, Fq_chain, Fq_txHash, Fq_occurredAt⟩ := B
  obtain ⟨T101, h101, X101, e101, E101, A101, D101, -, st101⟩ := newO X0 hx hZ hown (wi hw 47 rfl) (wi hw 48 rfl) (wi hw 49 rfl) e0 (g := (mkF m 0 #[.val (.ref a1)] [])) rfl (hb hby d6_0) (by decide) (by decide)
  obtain ⟨b101, g101⟩ : ∃ z, z = h0.size := ⟨_, rfl⟩
  rw [← g101] at A101 D101 st101
  have g_b101 : n0 ≤ b101 := Nat.le_trans (O0.1 ▸ O0.2.1) (Nat.le_of_eq g101.symm)
  have sz_b101 : h0.size ≤ b101 := Nat.le_trans (Nat.le_refl _) (Nat.le_of_eq g101.symm)
  have O101 := O0.ext E101
  have KK101 : Keep h0 h101 [] := (Keep.refl h0 []).ext E101
  have F_kind_b101 : Fld Z h101 b101 "com/example/postback/postback/Payment" "kind" "Lcom/example/postback/postback/PaymentKind;" .null := D101 (Or.inr (wi hw 57 rfl)) (ty := (.object "com/example/postback/postback/PaymentKind")) (by decide)
  have F_orderId_b101 : Fld Z h101 b101 "com/example/postback/postback/Payment" "orderId" "Ljava/lang/String;" .null := D101 (Or.inr (wi hw 61 rfl)) (ty := (.object "java/lang/String")) (by decide)
  have F_merchantOrderId_b101 : Fld Z h101 b101 "com/example/postback/postback/Payment" "merchantOrderId" "Ljava/lang/String;" .null := D101 (Or.inr (wi hw 65 rfl)) (ty := (.object "java/lang/String")) (by decide)
  have F_status_b101 : Fld Z h101 b101 "com/example/postback/postback/Payment" "status" "Lcom/example/postback/postback/PaymentStatus;" .null := D101 (Or.inr (wi hw 68 rfl)) (ty := (.object "com/example/postback/postback/PaymentStatus")) (by decide)
  have F_gatewayStatus_b101 : Fld Z h101 b101 "com/example/postback/postback/Payment" "gatewayStatus" "Ljava/lang/String;" .null := D101 (Or.inr (wi hw 72 rfl)) (ty := (.object "java/lang/String")) (by decide)
  have F_amount_b101 : Fld Z h101 b101 "com/example/postback/postback/Payment" "amount" "Ljava/lang/String;" .null := D101 (Or.inr (wi hw 76 rfl)) (ty := (.object "java/lang/String")) (by decide)
  have F_currency_b101 : Fld Z h101 b101 "com/example/postback/postback/Payment" "currency" "Ljava/lang/String;" .null := D101 (Or.inr (wi hw 80 rfl)) (ty := (.object "java/lang/String")) (by decide)
  have F_chain_b101 : Fld Z h101 b101 "com/example/postback/postback/Payment" "chain" "Ljava/lang/String;" .null := D101 (Or.inr (wi hw 84 rfl)) (ty := (.object "java/lang/String")) (by decide)
  have F_txHash_b101 : Fld Z h101 b101 "com/example/postback/postback/Payment" "txHash" "Ljava/lang/String;" .null := D101 (Or.inr (wi hw 88 rfl)) (ty := (.object "java/lang/String")) (by decide)
  have F_occurredAt_b101 : Fld Z h101 b101 "com/example/postback/postback/Payment" "occurredAt" "Ljava/lang/Long;" .null := D101 (Or.inr (wi hw 92 rfl)) (ty := (.object "java/lang/Long")) (by decide)
  have fE_a1_1_102 := (Eq.ext E101)
  have fPayment_Builder_kind_1_103 := (Fq_kind.ext E101)
  have fPayment_Builder_orderId_1_104 := (Fq_orderId.ext E101)
  have fPayment_Builder_merchantOrderId_1_105 := (Fq_merchantOrderId.ext E101)
  have fPayment_Builder_status_1_106 := (Fq_status.ext E101)
  have fPayment_Builder_gatewayStatus_1_107 := (Fq_gatewayStatus.ext E101)
  have fPayment_Builder_amount_1_108 := (Fq_amount.ext E101)
  have fPayment_Builder_currency_1_109 := (Fq_currency.ext E101)
  have fPayment_Builder_chain_1_110 := (Fq_chain.ext E101)
  have fPayment_Builder_txHash_1_111 := (Fq_txHash.ext E101)
  have fPayment_Builder_occurredAt_1_112 := (Fq_occurredAt.ext E101)
  obtain ⟨_, _, ⟨T113, L113, k113, n113⟩, -, X113, ⟨Lc113, hQ113, l113, y113, z113⟩, st113⟩ := X101.specialBackNest hx (y := (⟨"com/example/postback/postback/Payment", "<init>", "(Lcom/example/postback/postback/Payment$Builder;)V"⟩ : MethodName)) rfl hown (own_mvMN hZ (wi hw 50 rfl)) (mvT hZ (wi hw 51 rfl)) (mvT hZ (wi hw 52 rfl)) (by decide) (backOf (W := 1) (rm7 l Z a0 hw [] b101 a1 w h101 n0 O101 ⟨A101, F_kind_b101, F_orderId_b101, F_merchantOrderId_b101, F_status_b101, F_gatewayStatus_b101, F_amount_b101, F_currency_b101, F_chain_b101, F_txHash_b101, F_occurredAt_b101⟩ ⟨fE_a1_1_102, fPayment_Builder_kind_1_103, fPayment_Builder_orderId_1_104, fPayment_Builder_merchantOrderId_1_105, fPayment_Builder_status_1_106, fPayment_Builder_gatewayStatus_1_107, fPayment_Builder_amount_1_108, fPayment_Builder_currency_1_109, fPayment_Builder_chain_1_110, fPayment_Builder_txHash_1_111, fPayment_Builder_occurredAt_1_112⟩ (Nat.ne_of_lt (Nat.lt_of_lt_of_le Eq.lt (Nat.le_of_eq g101.symm))) g_b101) hZ (wi hw 52 rfl) (wi hw 49 rfl) (by decide) (by decide)) (g := (mkF m 5 #[.val (.ref a1)] [(.ref a1), (.ref b101), (.ref b101)])) rfl (by rw [hml]; rfl) (Steps.refl _) (a := b101) (argsL := [(.ref a1)]) (rest := [(.ref b101)]) (lenOf pd_1 rfl) rfl (by show 2 * 0 + _ ≤ _; exact Nat.le_of_eq rfl) (hb hby d6_5) (fun _ _ => ⟨rfl, e101, (by decide : 1 + 0 ≤ _), (by decide : 10 + 0 ≤ _)⟩)
  dsimp only [Pt.U, Pt.locs, Pt.cells, Pt.slots] at X113 l113 y113 z113 st113 hQ113
  subst l113 y113 z113
  obtain ⟨rfl, N113q, K113, ⟨Er113, Fr113_kind, Fr113_orderId, Fr113_merchantOrderId, Fr113_status, Fr113_gatewayStatus, Fr113_amount, Fr113_currency, Fr113_chain, Fr113_txHash, Fr113_occurredAt⟩⟩ := hQ113
  obtain ⟨h113, e113⟩ : ∃ z, T113.heap = z := ⟨_, rfl⟩
  rw [e113] at K113 Er113 Fr113_kind Fr113_orderId Fr113_merchantOrderId Fr113_status Fr113_gatewayStatus Fr113_amount Fr113_currency Fr113_chain Fr113_txHash Fr113_occurredAt
  have O113 := O101.keep K113 (allS g_b101 all0)
  have KK113 : Keep h0 h113 [] := KK101.trans K113 (allS (Or.inr sz_b101) all0)
  have N113 := Fr.app N0 N113q
  obtain ⟨fs, hr, hrun, hended, hW, hsame⟩ := X113.leave (v := some (.ref b101)) (fun h => by rw [Bd.returns] at h; cases h)
  refine ⟨_, _, pre0 _ ?_, hrun, hended, _, _, rfl, ?_, ⟨_, rfl⟩, hW, hsame.mono (by decide) (by decide)⟩
  · show Steps p.tables e below (s₁.setTop (mkF m 0 #[.val (.ref a1)] [])) _
    refine st101 _ ?_
    show Steps p.tables e below (T101.setTop (mkF m 3 #[.val (.ref a1)] [(.ref b101)])) _
    refine XS.dup X101.here hx rfl (hb hby d6_3) rfl rfl ?_
    show Steps p.tables e below (T101.setTop (mkF m 4 #[.val (.ref a1)] [(.ref b101), (.ref b101)])) _
    refine XS.aloadN X101.here hx rfl (hb hby d6_4) rfl rfl ?_
    show Steps p.tables e below (T101.setTop (mkF m 5 #[.val (.ref a1)] [(.ref a1), (.ref b101), (.ref b101)])) _
    refine st113.trans ?_
    show Steps p.tables e below (T113.setTop (mkF m 8 #[.val (.ref a1)] [(.ref b101)])) _
    jvm_step X113.here [X113.here.top, hx, (hb hby d6_8), X113.method', Bd.returns, Value.isRef, FieldType.isReference]
    first | (intro acts; rw [hr _ acts rfl rfl rfl]) | rw [hr _ _ rfl rfl rfl]
    exact Steps.refl _
  · show Q6 Z (.ref w) h0 n0 _ T113.heap _
    rw [e113]
    exact ⟨_, rfl, N113, KK113, ⟨Er113, Fr113_kind, Fr113_orderId, Fr113_merchantOrderId, Fr113_status, Fr113_gatewayStatus, Fr113_amount, Fr113_currency, Fr113_chain, Fr113_txHash, Fr113_occurredAt⟩⟩
theorem d8_0 : decode prog_5_method_5_code 0 = .ok (.aload_n 0, 1) := by decide +kernel
theorem d8_1 : decode prog_5_method_5_code 1 = .ok (.getfield 29, 3) := by decide +kernel
theorem d8_4 : decode prog_5_method_5_code 4 = .ok (.areturn, 1) := by decide +kernel
set_option maxRecDepth 65536 in
set_option maxHeartbeats 40000000 in
theorem rm8 (l : Launch) (Z : State) (a0 : Array Value) (hw : ∀ d ∈ tables_1, d.before a0 Z = true) (ws : List Jvm.Cond) (a1 w : Addr) (h0 : Heap) (n0 : Nat) (O0 : Old Z n0 h0) (F : Fld Z h0 a1 "com/example/postback/postback/Payment" "status" "Lcom/example/postback/postback/PaymentStatus;" (.ref w)) :
    MetFree l (⟨"com/example/postback/postback/Payment", "status", "()Lcom/example/postback/postback/PaymentStatus;"⟩ : MethodName) (head1 (Jvm.Cond.code (⟨"com/example/postback/postback/Payment", "status", "()Lcom/example/postback/postback/PaymentStatus;"⟩ : MethodName) prog_5_method_5_code 1 (some (.object "com/example/postback/postback/PaymentStatus")) :: ws) ({ frames := 0, cells := 0, slots := 0, locals := 0 } : Room)) (fun a_ U => a_ = #[(.ref a1)] ∧ Z.Warmed39 U.vm ∧ U.heap = h0) (fun _ _ _ _ _ => True) (fun _ U o U' => ∃ v L, o = .returned v ∧ QP (.ref w) h0 n0 v U'.heap L ∧ FrameEnd U o U' L ({ frames := 0, cells := 0, slots := 0, locals := 0 } : Room).cells ({ frames := 0, cells := 0, slots := 0, locals := 0 } : Room).slots) := by
  refine MetFree.of_bodySF (plainFor_of_name pn_3) hisR ?_
  intro p e s m args below meth c s₁ Bd hml0 hP hK
  obtain ⟨rfl, hZ, hh⟩ := hP
  have hx := Bd.exec
  have hby := Bd.bytes
  have hml : c.maxLocals = 1 := hml0
  have hown : s.vm.findClass "com/example/postback/postback/Payment" = some m.cls := findClass_of_methodNamed Bd.named
  have hnm := (name_of_methodNamed Bd.named Bd.method).1
  have X0 : Stand p l e ({ frames := 0, cells := 0, slots := 0, locals := 0 } : Room) s m #[(.ref a1)] below meth c s₁ [] 0 0 := Stand.of_body Bd
  have e0 : s₁.heap = h0 := by rw [← hh, Bd.state]; rfl
  have N0 := Fr.nil n0
  have pre0 : ∀ tg, Steps p.tables e below (s₁.setTop (mkF m 0 #[.val (.ref a1)] [])) tg → Steps p.tables e below (s₁.setTop (entryFrame m #[(.ref a1)] 1)) tg := fun tg kq => castTop (ef_R_1 m a1) kq
  obtain ⟨T101, X101, e101, st101⟩ := getF X0 hx hZ hown (host := "") (Or.inl (wi hw 67 rfl)) Via.refl e0 F (g := (mkF m 1 #[.val (.ref a1)] [(.ref a1)])) rfl rfl (hb hby d8_1)
  obtain ⟨fs, hr, hrun, hended, hW, hsame⟩ := X101.leave (v := some (.ref w)) (fun h => by rw [Bd.returns] at h; cases h)
  refine ⟨_, _, pre0 _ ?_, hrun, hended, _, _, rfl, ?_, ⟨_, rfl⟩, hW, hsame.mono (by decide) (by decide)⟩
  · show Steps p.tables e below (s₁.setTop (mkF m 0 #[.val (.ref a1)] [])) _
    refine XS.aloadN X0.here hx rfl (hb hby d8_0) rfl rfl ?_
    show Steps p.tables e below (s₁.setTop (mkF m 1 #[.val (.ref a1)] [(.ref a1)])) _
    refine st101 _ ?_
    show Steps p.tables e below (T101.setTop (mkF m 4 #[.val (.ref a1)] [(.ref w)])) _
    jvm_step X101.here [X101.here.top, hx, (hb hby d8_4), X101.method', Bd.returns, Value.isRef, FieldType.isReference]
    first | (intro acts; rw [hr _ acts rfl rfl rfl]) | rw [hr _ _ rfl rfl rfl]
    exact Steps.refl _
  · show QP (.ref w) h0 n0 _ T101.heap _
    rw [e101]
    exact ⟨rfl, N0, rfl⟩
theorem d9_0 : decode prog_5_method_2_code 0 = .ok (.aload_n 0, 1) := by decide +kernel
theorem d9_1 : decode prog_5_method_2_code 1 = .ok (.getfield 13, 3) := by decide +kernel
theorem d9_4 : decode prog_5_method_2_code 4 = .ok (.areturn, 1) := by decide +kernel
set_option maxRecDepth 65536 in
set_option maxHeartbeats 40000000 in
theorem rm9 (l : Launch) (Z : State) (a0 : Array Value) (hw : ∀ d ∈ tables_1, d.before a0 Z = true) (ws : List Jvm.Cond) (a1 w : Addr) (h0 : Heap) (n0 : Nat) (O0 : Old Z n0 h0) (F : Fld Z h0 a1 "com/example/postback/postback/Payment" "kind" "Lcom/example/postback/postback/PaymentKind;" .null) :
    MetFree l (⟨"com/example/postback/postback/Payment", "kind", "()Lcom/example/postback/postback/PaymentKind;"⟩ : MethodName) (head1 (Jvm.Cond.code (⟨"com/example/postback/postback/Payment", "kind", "()Lcom/example/postback/postback/PaymentKind;"⟩ : MethodName) prog_5_method_2_code 1 (some (.object "com/example/postback/postback/PaymentKind")) :: ws) ({ frames := 0, cells := 0, slots := 0, locals := 0 } : Room)) (fun a_ U => a_ = #[(.ref a1)] ∧ Z.Warmed39 U.vm ∧ U.heap = h0) (fun _ _ _ _ _ => True) (fun _ U o U' => ∃ v L, o = .returned v ∧ QP .null h0 n0 v U'.heap L ∧ FrameEnd U o U' L ({ frames := 0, cells := 0, slots := 0, locals := 0 } : Room).cells ({ frames := 0, cells := 0, slots := 0, locals := 0 } : Room).slots) := by
  refine MetFree.of_bodySF (plainFor_of_name pn_3) hisR ?_
  intro p e s m args below meth c s₁ Bd hml0 hP hK
  obtain ⟨rfl, hZ, hh⟩ := hP
  have hx := Bd.exec
  have hby := Bd.bytes
  have hml : c.maxLocals = 1 := hml0
  have hown : s.vm.findClass "com/example/postback/postback/Payment" = some m.cls := findClass_of_methodNamed Bd.named
  have hnm := (name_of_methodNamed Bd.named Bd.method).1
  have X0 : Stand p l e ({ frames := 0, cells := 0, slots := 0, locals := 0 } : Room) s m #[(.ref a1)] below meth c s₁ [] 0 0 := Stand.of_body Bd
  have e0 : s₁.heap = h0 := by rw [← hh, Bd.state]; rfl
  have N0 := Fr.nil n0
  have pre0 : ∀ tg, Steps p.tables e below (s₁.setTop (mkF m 0 #[.val (.ref a1)] [])) tg → Steps p.tables e below (s₁.setTop (entryFrame m #[(.ref a1)] 1)) tg := fun tg kq => castTop (ef_R_1 m a1) kq
  obtain ⟨T101, X101, e101, st101⟩ := getF X0 hx hZ hown (host := "") (Or.inl (wi hw 56 rfl)) Via.refl e0 F (g := (mkF m 1 #[.val (.ref a1)] [(.ref a1)])) rfl rfl (hb hby d9_1)
  obtain ⟨fs, hr, hrun, hended, hW, hsame⟩ := X101.leave (v := some .null) (fun h => by rw [Bd.returns] at h; cases h)
  refine ⟨_, _, pre0 _ ?_, hrun, hended, _, _, rfl, ?_, ⟨_, rfl⟩, hW, hsame.mono (by decide) (by decide)⟩
  · show Steps p.tables e below (s₁.setTop (mkF m 0 #[.val (.ref a1)] [])) _
    refine XS.aloadN X0.here hx rfl (hb hby d9_0) rfl rfl ?_
    show Steps p.tables e below (s₁.setTop (mkF m 1 #[.val (.ref a1)] [(.ref a1)])) _
    refine st101 _ ?_
    show Steps p.tables e below (T101.setTop (mkF m 4 #[.val (.ref a1)] [.null])) _
    jvm_step X101.here [X101.here.top, hx, (hb hby d9_4), X101.method', Bd.returns, Value.isRef, FieldType.isReference]
    first | (intro acts; rw [hr _ acts rfl rfl rfl]) | rw [hr _ _ rfl rfl rfl]
    exact Steps.refl _
  · show QP .null h0 n0 _ T101.heap _
    rw [e101]
    exact ⟨rfl, N0, rfl⟩
theorem d10_0 : decode prog_5_method_6_code 0 = .ok (.aload_n 0, 1) := by decide +kernel
theorem d10_1 : decode prog_5_method_6_code 1 = .ok (.getfield 33, 3) := by decide +kernel
theorem d10_4 : decode prog_5_method_6_code 4 = .ok (.areturn, 1) := by decide +kernel
set_option maxRecDepth 65536 in
set_option maxHeartbeats 40000000 in
theorem rm10 (l : Launch) (Z : State) (a0 : Array Value) (hw : ∀ d ∈ tables_1, d.before a0 Z = true) (ws : List Jvm.Cond) (a1 w : Addr) (h0 : Heap) (n0 : Nat) (O0 : Old Z n0 h0) (F : Fld Z h0 a1 "com/example/postback/postback/Payment" "gatewayStatus" "Ljava/lang/String;" .null) :
    MetFree l (⟨"com/example/postback/postback/Payment", "gatewayStatus", "()Ljava/lang/String;"⟩ : MethodName) (head1 (Jvm.Cond.code (⟨"com/example/postback/postback/Payment", "gatewayStatus", "()Ljava/lang/String;"⟩ : MethodName) prog_5_method_6_code 1 (some (.object "java/lang/String")) :: ws) ({ frames := 0, cells := 0, slots := 0, locals := 0 } : Room)) (fun a_ U => a_ = #[(.ref a1)] ∧ Z.Warmed39 U.vm ∧ U.heap = h0) (fun _ _ _ _ _ => True) (fun _ U o U' => ∃ v L, o = .returned v ∧ QP .null h0 n0 v U'.heap L ∧ FrameEnd U o U' L ({ frames := 0, cells := 0, slots := 0, locals := 0 } : Room).cells ({ frames := 0, cells := 0, slots := 0, locals := 0 } : Room).slots) := by
  refine MetFree.of_bodySF (plainFor_of_name pn_3) hisR ?_
  intro p e s m args below meth c s₁ Bd hml0 hP hK
  obtain ⟨rfl, hZ, hh⟩ := hP
  have hx := Bd.exec
  have hby := Bd.bytes
  have hml : c.maxLocals = 1 := hml0
  have hown : s.vm.findClass "com/example/postback/postback/Payment" = some m.cls := findClass_of_methodNamed Bd.named
  have hnm := (name_of_methodNamed Bd.named Bd.method).1
  have X0 : Stand p l e ({ frames := 0, cells := 0, slots := 0, locals := 0 } : Room) s m #[(.ref a1)] below meth c s₁ [] 0 0 := Stand.of_body Bd
  have e0 : s₁.heap = h0 := by rw [← hh, Bd.state]; rfl
  have N0 := Fr.nil n0
  have pre0 : ∀ tg, Steps p.tables e below (s₁.setTop (mkF m 0 #[.val (.ref a1)] [])) tg → Steps p.tables e below (s₁.setTop (entryFrame m #[(.ref a1)] 1)) tg := fun tg kq => castTop (ef_R_1 m a1) kq
  obtain ⟨T101, X101, e101, st101⟩ := getF X0 hx hZ hown (host := "") (Or.inl (wi hw 71 rfl)) Via.refl e0 F (g := (mkF m 1 #[.val (.ref a1)] [(.ref a1)])) rfl rfl (hb hby d10_1)
  obtain ⟨fs, hr, hrun, hended, hW, hsame⟩ := X101.leave (v := some .null) (fun h => by rw [Bd.returns] at h; cases h)
  refine ⟨_, _, pre0 _ ?_, hrun, hended, _, _, rfl, ?_, ⟨_, rfl⟩, hW, hsame.mono (by decide) (by decide)⟩
  · show Steps p.tables e below (s₁.setTop (mkF m 0 #[.val (.ref a1)] [])) _
    refine XS.aloadN X0.here hx rfl (hb hby d10_0) rfl rfl ?_
    show Steps p.tables e below (s₁.setTop (mkF m 1 #[.val (.ref a1)] [(.ref a1)])) _
    refine st101 _ ?_
    show Steps p.tables e below (T101.setTop (mkF m 4 #[.val (.ref a1)] [.null])) _
    jvm_step X101.here [X101.here.top, hx, (hb hby d10_4), X101.method', Bd.returns, Value.isRef, FieldType.isReference]
    first | (intro acts; rw [hr _ acts rfl rfl rfl]) | rw [hr _ _ rfl rfl rfl]
    exact Steps.refl _
  · show QP .null h0 n0 _ T101.heap _
    rw [e101]
    exact ⟨rfl, N0, rfl⟩
def Q0 (h0 : Heap) (n0 : Nat) (v : Option Value) (h : Heap) (L : List Loc) : Prop := v = some (.int (1 : Int32)) ∧ Fr n0 L
theorem pd_2 : parseMethodDescriptor "(I)Lcom/example/postback/postback/PaymentStatus;" = some ⟨[.int], some (.object "com/example/postback/postback/PaymentStatus")⟩ := by decide +kernel
theorem pd_3 : parseMethodDescriptor "()V" = some ⟨[], none⟩ := by decide +kernel
theorem pd_4 : parseMethodDescriptor "(Lcom/example/postback/postback/PaymentStatus;)Lcom/example/postback/postback/Payment$Builder;" = some ⟨[(.object "com/example/postback/postback/PaymentStatus")], some (.object "com/example/postback/postback/Payment$Builder")⟩ := by decide +kernel
theorem pd_5 : parseMethodDescriptor "()Lcom/example/postback/postback/Payment;" = some ⟨[], some (.object "com/example/postback/postback/Payment")⟩ := by decide +kernel
theorem pd_6 : parseMethodDescriptor "()Lcom/example/postback/postback/PaymentStatus;" = some ⟨[], some (.object "com/example/postback/postback/PaymentStatus")⟩ := by decide +kernel
theorem pd_7 : parseMethodDescriptor "()Lcom/example/postback/postback/PaymentKind;" = some ⟨[], some (.object "com/example/postback/postback/PaymentKind")⟩ := by decide +kernel
theorem pd_8 : parseMethodDescriptor "()Ljava/lang/String;" = some ⟨[], some (.object "java/lang/String")⟩ := by decide +kernel
theorem ef_III_9m (m : MethodId) (x0 : Int32) (x1 : Int32) (x2 : Int32) : entryFrame m #[(.int x0), (.int x1), (.int x2)] maxLocals = mkF m 0 #[.val (.int x0), .val (.int x1), .val (.int x2), .unset, .unset, .unset, .unset, .unset, .unset] [] := by first | (simp [entryFrame, mkF, argsToLocals, Value.category, maxLocals]; done) | rfl
set_option maxRecDepth 65536 in
set_option maxHeartbeats 40000000 in
theorem rm0_a (l : Launch) (Z : State) (a0 : Array Value) (hw : ∀ d ∈ tables_1, d.before a0 Z = true) (ws : List Jvm.Cond) (p1 p2 p3 : Int32) (w1 w2 wU : Addr) (h0 : Heap) (n0 : Nat) (O0 : Old Z n0 h0) (S1 : Sta Z Z.heap "com/example/postback/postback/PaymentStatus" (pk (irm (p1 &&& (2147483647 : Int32)) (9 : Int32))) "Lcom/example/postback/postback/PaymentStatus;" (.ref w1)) (S2 : Sta Z Z.heap "com/example/postback/postback/PaymentStatus" (pk (irm (p2 &&& (2147483647 : Int32)) (9 : Int32))) "Lcom/example/postback/postback/PaymentStatus;" (.ref w2)) (E1 : Exa Z Z.heap w1 "com/example/postback/postback/PaymentStatus") (E2 : Exa Z Z.heap w2 "com/example/postback/postback/PaymentStatus") (S_UNKNOWN : Sta Z Z.heap "com/example/postback/postback/PaymentStatus" "UNKNOWN" "Lcom/example/postback/postback/PaymentStatus;" (.ref wU)) (k : ¬ ((p3 &&& (1 : Int32)) = 0)) :
    MetFree l x (head1 (Jvm.Cond.code x code maxLocals ret :: ws) room_1) (fun a_ U => a_ = #[(.int p1), (.int p2), (.int p3)] ∧ Z.Warmed39 U.vm ∧ U.heap = h0) (fun _ _ _ _ _ => True) (fun _ U o U' => ∃ v L, o = .returned v ∧ Q0 h0 n0 v U'.heap L ∧ ReturnedEndW U o U' L room_1.cells room_1.slots) := by
  refine MetFree.of_bodySF (plainFor_of_name pn_0) hisR ?_
  intro p e s m args below meth c s₁ Bd hml0 hP hK
  obtain ⟨rfl, hZ, hh⟩ := hP
  have hx := Bd.exec
  have hby := Bd.bytes
  have hml : c.maxLocals = 9 := hml0
  have hown : s.vm.findClass "com/example/postback/postback/BuilderStatusPinLaw" = some m.cls := findClass_of_methodNamed Bd.named
  have hnm := (name_of_methodNamed Bd.named Bd.method).1
  have X0 : Stand p l e room_1 (s.setVm s.vm) m #[(.int p1), (.int p2), (.int p3)] below meth c s₁ [] 0 0 := Stand.of_body Bd
  have e0 : s₁.heap = h0 := by rw [← hh, Bd.state]; rfl
  have N0 := Fr.nil n0
  have pre0 : ∀ tg, Steps p.tables e below (s₁.setTop (mkF m 0 #[.val (.int p1), .val (.int p2), .val (.int p3), .unset, .unset, .unset, .unset, .unset, .unset] [])) tg → Steps p.tables e below (s₁.setTop (entryFrame m #[(.int p1), (.int p2), (.int p3)] maxLocals)) tg := fun tg kq => castTop (ef_III_9m m p1 p2 p3) kq
  have hS0 : s.Since s.vm h0.size := (State.WarmedH.refl s).since _
  have hk0 : h0.size ≤ h0.size := Nat.le_refl _
  obtain ⟨_, _, ⟨T101, L101, k101, n101⟩, -, X101, ⟨Lc101, hQ101, l101, y101, z101⟩, st101⟩ := Jvm.LawKit.callS X0 hx (y := (⟨"com/example/postback/postback/BuilderStatusPinLaw", "pick", "(I)Lcom/example/postback/postback/PaymentStatus;"⟩ : MethodName)) hown (mvT hZ (wi hw 0 rfl)) (mvT hZ (wi hw 1 rfl)) (mvT hZ (wi hw 2 rfl)) (mvT hZ (wi hw 3 rfl)) (by decide) (backOf (W := 0) (rm1 l Z a0 hw [] p1 w1 h0 n0 O0 S1) hZ (wi hw 3 rfl) (wi hw 2 rfl) (by decide) (by decide)) (g := (mkF m 13 #[.val (.int p1), .val (.int p2), .val (.int p3), .val (.int (1 : Int32)), .unset, .unset, .unset, .unset, .unset] [(.int p1)])) rfl (by rw [hml]; rfl) (argsL := [(.int p1)]) (rest := []) (lenOf pd_2 rfl) rfl (by show 2 * 0 + _ ≤ _; exact Nat.le_of_eq rfl) (hb hby at_13) (fun _ _ => ⟨rfl, e0, (by decide : 0 + 0 ≤ _), (by decide : 0 + 0 ≤ _)⟩)
  dsimp only [Pt.U, Pt.locs, Pt.cells, Pt.slots] at X101 l101 y101 z101 st101 hQ101
  subst l101 y101 z101
  obtain ⟨rfl, N101q, hh101⟩ := hQ101
  have e101 : T101.heap = h0 := hh101
  have N101 := Fr.app N0 N101q
  obtain ⟨_, _, ⟨T102, L102, k102, n102⟩, -, X102, ⟨Lc102, hQ102, l102, y102, z102⟩, st102⟩ := Jvm.LawKit.callS X101 hx (y := (⟨"com/example/postback/postback/BuilderStatusPinLaw", "pick", "(I)Lcom/example/postback/postback/PaymentStatus;"⟩ : MethodName)) hown (mvT hZ (wi hw 0 rfl)) (mvT hZ (wi hw 1 rfl)) (mvT hZ (wi hw 2 rfl)) (mvT hZ (wi hw 3 rfl)) (by decide) (backOf (W := 0) (rm1 l Z a0 hw [] p2 w2 h0 n0 O0 S2) hZ (wi hw 3 rfl) (wi hw 2 rfl) (by decide) (by decide)) (g := (mkF m 19 #[.val (.int p1), .val (.int p2), .val (.int p3), .val (.int (1 : Int32)), .val (.ref w1), .unset, .unset, .unset, .unset] [(.int p2)])) rfl (by rw [hml]; rfl) (argsL := [(.int p2)]) (rest := []) (lenOf pd_2 rfl) rfl (by show 2 * 0 + _ ≤ _; exact Nat.le_of_eq rfl) (hb hby at_19) (fun _ _ => ⟨rfl, e101, (by decide : 0 + 0 ≤ _), (by decide : 0 + 0 ≤ _)⟩)
  dsimp only [Pt.U, Pt.locs, Pt.cells, Pt.slots] at X102 l102 y102 z102 st102 hQ102
  subst l102 y102 z102
  obtain ⟨rfl, N102q, hh102⟩ := hQ102
  have e102 : T102.heap = h0 := hh102
  have N102 := Fr.app N101 N102q
  obtain ⟨T103, h103, X103, e103, E103, A103, D103, -, st103⟩ := newO X102 hx hZ hown (wi hw 10 rfl) (wi hw 11 rfl) (wi hw 12 rfl) e102 (g := (mkF m 24 #[.val (.int p1), .val (.int p2), .val (.int p3), .val (.int (1 : Int32)), .val (.ref w1), .val (.ref w2), .unset, .unset, .unset] [])) rfl (hb hby at_24) (by decide) (by decide)
  obtain ⟨b103, g103⟩ : ∃ z, z = h0.size := ⟨_, rfl⟩
  rw [← g103] at A103 D103 st103
  have g_b103 : n0 ≤ b103 := Nat.le_trans (O0.1 ▸ O0.2.1) (Nat.le_of_eq g103.symm)
  have sz_b103 : h0.size ≤ b103 := Nat.le_trans (Nat.le_refl _) (Nat.le_of_eq g103.symm)
  have O103 := O0.ext E103
  have KK103 : Keep h0 h103 [] := (Keep.refl h0 []).ext E103
  have F_status_b103 : Fld Z h103 b103 "com/example/postback/postback/Payment$Builder" "status" "Lcom/example/postback/postback/PaymentStatus;" .null := D103 (Or.inl (wi hw 22 rfl)) (ty := (.object "com/example/postback/postback/PaymentStatus")) (by decide)
  have F_kind_b103 : Fld Z h103 b103 "com/example/postback/postback/Payment$Builder" "kind" "Lcom/example/postback/postback/PaymentKind;" .null := D103 (Or.inl (wi hw 55 rfl)) (ty := (.object "com/example/postback/postback/PaymentKind")) (by decide)
  have F_orderId_b103 : Fld Z h103 b103 "com/example/postback/postback/Payment$Builder" "orderId" "Ljava/lang/String;" .null := D103 (Or.inl (wi hw 59 rfl)) (ty := (.object "java/lang/String")) (by decide)
  have F_merchantOrderId_b103 : Fld Z h103 b103 "com/example/postback/postback/Payment$Builder" "merchantOrderId" "Ljava/lang/String;" .null := D103 (Or.inl (wi hw 63 rfl)) (ty := (.object "java/lang/String")) (by decide)
  have F_gatewayStatus_b103 : Fld Z h103 b103 "com/example/postback/postback/Payment$Builder" "gatewayStatus" "Ljava/lang/String;" .null := D103 (Or.inl (wi hw 70 rfl)) (ty := (.object "java/lang/String")) (by decide)
  have F_amount_b103 : Fld Z h103 b103 "com/example/postback/postback/Payment$Builder" "amount" "Ljava/lang/String;" .null := D103 (Or.inl (wi hw 74 rfl)) (ty := (.object "java/lang/String")) (by decide)
  have F_currency_b103 : Fld Z h103 b103 "com/example/postback/postback/Payment$Builder" "currency" "Ljava/lang/String;" .null := D103 (Or.inl (wi hw 78 rfl)) (ty := (.object "java/lang/String")) (by decide)
  have F_chain_b103 : Fld Z h103 b103 "com/example/postback/postback/Payment$Builder" "chain" "Ljava/lang/String;" .null := D103 (Or.inl (wi hw 82 rfl)) (ty := (.object "java/lang/String")) (by decide)
  have F_txHash_b103 : Fld Z h103 b103 "com/example/postback/postback/Payment$Builder" "txHash" "Ljava/lang/String;" .null := D103 (Or.inl (wi hw 86 rfl)) (ty := (.object "java/lang/String")) (by decide)
  have F_occurredAt_b103 : Fld Z h103 b103 "com/example/postback/postback/Payment$Builder" "occurredAt" "Ljava/lang/Long;" .null := D103 (Or.inl (wi hw 90 rfl)) (ty := (.object "java/lang/Long")) (by decide)
  obtain ⟨_, _, ⟨T104, L104, k104, n104⟩, -, X104, ⟨Lc104, hQ104, l104, y104, z104⟩, st104⟩ := X103.specialBack hx (y := (⟨"com/example/postback/postback/Payment$Builder", "<init>", "()V"⟩ : MethodName)) rfl hown (mvT hZ (wi hw 13 rfl)) (mvT hZ (wi hw 14 rfl)) (mvT hZ (wi hw 15 rfl)) (by decide) (backOf (W := 1) (rm2 l Z a0 hw [] b103 wU h103 n0 O103 ⟨A103, F_kind_b103, F_orderId_b103, F_merchantOrderId_b103, F_status_b103, F_gatewayStatus_b103, F_amount_b103, F_currency_b103, F_chain_b103, F_txHash_b103, F_occurredAt_b103⟩ S_UNKNOWN g_b103) hZ (wi hw 15 rfl) (wi hw 12 rfl) (by decide) (by decide)) (g := (mkF m 28 #[.val (.int p1), .val (.int p2), .val (.int p3), .val (.int (1 : Int32)), .val (.ref w1), .val (.ref w2), .unset, .unset, .unset] [(.ref b103), (.ref b103)])) rfl (by rw [hml]; rfl) (Steps.refl _) (a := b103) (argsL := []) (rest := [(.ref b103)]) (lenOf pd_3 rfl) rfl (by show 2 * 0 + _ ≤ _; exact Nat.le_of_eq rfl) (hb hby at_28) (fun _ _ => ⟨rfl, e103, (by decide : 1 + 0 ≤ _), (by decide : 10 + 0 ≤ _)⟩)
  dsimp only [Pt.U, Pt.locs, Pt.cells, Pt.slots] at X104 l104 y104 z104 st104 hQ104
  subst l104 y104 z104
  obtain ⟨rfl, N104q, K104, ⟨Es104, Fs104_kind, Fs104_orderId, Fs104_merchantOrderId, Fs104_status, Fs104_gatewayStatus, Fs104_amount, Fs104_currency, Fs104_chain, Fs104_txHash, Fs104_occurredAt⟩⟩ := hQ104
  obtain ⟨h104, e104⟩ : ∃ z, T104.heap = z := ⟨_, rfl⟩
  rw [e104] at K104 Es104 Fs104_kind Fs104_orderId Fs104_merchantOrderId Fs104_status Fs104_gatewayStatus Fs104_amount Fs104_currency Fs104_chain Fs104_txHash Fs104_occurredAt
  have O104 := O103.keep K104 (allS g_b103 all0)
  have KK104 : Keep h0 h104 [] := KK103.trans K104 (allS (Or.inr sz_b103) all0)
  have N104 := Fr.app N102 N104q
  obtain ⟨cq105, kq105, q105a, q105b, q105c⟩ := isOf hZ e104 Es104
  obtain ⟨_, _, ⟨T105, L105, k105, n105⟩, -, Xr105, hSr105, gr105, ⟨Lc105, hQ105, l105, y105, z105⟩, st105⟩ := X104.virtualBackS hx (y := (⟨"com/example/postback/postback/Payment$Builder", "status", "(Lcom/example/postback/postback/PaymentStatus;)Lcom/example/postback/postback/Payment$Builder;"⟩ : MethodName)) (z := (⟨"com/example/postback/postback/Payment$Builder", "status", "(Lcom/example/postback/postback/PaymentStatus;)Lcom/example/postback/postback/Payment$Builder;"⟩ : MethodName)) hown (mvT hZ (wi hw 23 rfl)) (mvT hZ (wi hw 24 rfl)) (notFace_of_selects (args := #[]) (mvT hZ (wi hw 26 rfl))) (mvT hZ (wi hw 26 rfl)) (mvT hZ (wi hw 25 rfl)) (by decide) (backOfS (W := 0) (rm4 l Z a0 hw [] b103 w1 (.ref wU) h104 n0 O104 ⟨Es104, Fs104_kind, Fs104_orderId, Fs104_merchantOrderId, Fs104_status, Fs104_gatewayStatus, Fs104_amount, Fs104_currency, Fs104_chain, Fs104_txHash, Fs104_occurredAt⟩ E1 g_b103) hZ (wi hw 27 rfl) (wi hw 12 rfl) (by decide) (by decide)) q105a q105c (g := (mkF m 41 #[.val (.int p1), .val (.int p2), .val (.int p3), .val (.int (1 : Int32)), .val (.ref w1), .val (.ref w2), .val (.ref b103), .unset, .unset] [(.ref w1), (.ref b103)])) rfl (by rw [hml]; rfl) (Steps.refl _) (argsL := [(.ref w1)]) (rest := []) (lenOf pd_4 rfl) rfl (by show 2 * 0 + _ ≤ _; exact Nat.le_of_eq rfl) (hb hby at_41) (fun _ _ => ⟨rfl, e104, (by decide : 1 + 2 ≤ _), (by decide : 10 + 28 ≤ _)⟩)
  dsimp only [Pt.U, Pt.locs, Pt.cells, Pt.slots] at Xr105 l105 y105 z105 st105 hQ105 hSr105 gr105
  subst l105 y105 z105
  obtain ⟨X105, hS105, hZ105, hown105⟩ := rebS hS0 (by rw [e104]; exact (Nat.le_trans (Nat.le_trans hk0 E103.1) K104.1)) Xr105 hSr105 gr105 hZ hown
  obtain ⟨rfl, N105q, K105, ⟨Es105, Fs105_kind, Fs105_orderId, Fs105_merchantOrderId, Fs105_status, Fs105_gatewayStatus, Fs105_amount, Fs105_currency, Fs105_chain, Fs105_txHash, Fs105_occurredAt⟩⟩ := hQ105
  obtain ⟨h105, e105⟩ : ∃ z, T105.heap = z := ⟨_, rfl⟩
  rw [e105] at K105 Es105 Fs105_kind Fs105_orderId Fs105_merchantOrderId Fs105_status Fs105_gatewayStatus Fs105_amount Fs105_currency Fs105_chain Fs105_txHash Fs105_occurredAt
  have O105 := O104.keep K105 (allS g_b103 all0)
  have KK105 : Keep h0 h105 [] := KK104.trans K105 (allS (Or.inr sz_b103) all0)
  rw [e105] at hS105
  have N105 := Fr.app N104 N105q
  obtain ⟨cq106, kq106, q106a, q106b, q106c⟩ := isOf hZ105 e105 Es105
  obtain ⟨_, _, ⟨T106, L106, k106, n106⟩, -, Xr106, hSr106, gr106, ⟨Lc106, hQ106, l106, y106, z106⟩, st106⟩ := X105.virtualBackS hx (y := (⟨"com/example/postback/postback/Payment$Builder", "status", "(Lcom/example/postback/postback/PaymentStatus;)Lcom/example/postback/postback/Payment$Builder;"⟩ : MethodName)) (z := (⟨"com/example/postback/postback/Payment$Builder", "status", "(Lcom/example/postback/postback/PaymentStatus;)Lcom/example/postback/postback/Payment$Builder;"⟩ : MethodName)) hown105 (mvT hZ105 (wi hw 23 rfl)) (mvT hZ105 (wi hw 24 rfl)) (notFace_of_selects (args := #[]) (mvT hZ105 (wi hw 26 rfl))) (mvT hZ105 (wi hw 26 rfl)) (mvT hZ105 (wi hw 25 rfl)) (by decide) (backOfS (W := 0) (rm4 l Z a0 hw [] b103 w2 (.ref w1) h105 n0 O105 ⟨Es105, Fs105_kind, Fs105_orderId, Fs105_merchantOrderId, Fs105_status, Fs105_gatewayStatus, Fs105_amount, Fs105_currency, Fs105_chain, Fs105_txHash, Fs105_occurredAt⟩ E2 g_b103) hZ105 (wi hw 27 rfl) (wi hw 12 rfl) (by decide) (by decide)) q106a q106c (g := (mkF m 59 #[.val (.int p1), .val (.int p2), .val (.int p3), .val (.int (1 : Int32)), .val (.ref w1), .val (.ref w2), .val (.ref b103), .val (.ref b103), .unset] [(.ref w2), (.ref b103)])) rfl (by rw [hml]; rfl) (Steps.refl _) (argsL := [(.ref w2)]) (rest := []) (lenOf pd_4 rfl) rfl (by show 2 * 0 + _ ≤ _; exact Nat.le_of_eq rfl) (hb hby at_59) (fun _ _ => ⟨rfl, e105, (by decide : 3 + 2 ≤ _), (by decide : 38 + 28 ≤ _)⟩)
  dsimp only [Pt.U, Pt.locs, Pt.cells, Pt.slots] at Xr106 l106 y106 z106 st106 hQ106 hSr106 gr106
  subst l106 y106 z106
  obtain ⟨X106, hS106, hZ106, hown106⟩ := rebS hS105 (by rw [e105]; exact (Nat.le_refl _)) Xr106 hSr106 gr106 hZ105 hown105
  obtain ⟨rfl, N106q, K106, ⟨Es106, Fs106_kind, Fs106_orderId, Fs106_merchantOrderId, Fs106_status, Fs106_gatewayStatus, Fs106_amount, Fs106_currency, Fs106_chain, Fs106_txHash, Fs106_occurredAt⟩⟩ := hQ106
  obtain ⟨h106, e106⟩ : ∃ z, T106.heap = z := ⟨_, rfl⟩
  rw [e106] at K106 Es106 Fs106_kind Fs106_orderId Fs106_merchantOrderId Fs106_status Fs106_gatewayStatus Fs106_amount Fs106_currency Fs106_chain Fs106_txHash Fs106_occurredAt
  have O106 := O105.keep K106 (allS g_b103 all0)
  have KK106 : Keep h0 h106 [] := KK105.trans K106 (allS (Or.inr sz_b103) all0)
  rw [e106] at hS106
  have N106 := Fr.app N105 N106q
  obtain ⟨cq107, kq107, q107a, q107b, q107c⟩ := isOf hZ106 e106 Es106
  obtain ⟨_, _, ⟨T107, L107, k107, n107⟩, -, X107, ⟨Lc107, hQ107, l107, y107, z107⟩, st107⟩ := X106.virtualBack hx (y := (⟨"com/example/postback/postback/Payment$Builder", "build", "()Lcom/example/postback/postback/Payment;"⟩ : MethodName)) (z := (⟨"com/example/postback/postback/Payment$Builder", "build", "()Lcom/example/postback/postback/Payment;"⟩ : MethodName)) hown106 (mvT hZ106 (wi hw 42 rfl)) (mvT hZ106 (wi hw 43 rfl)) (notFace_of_selects (args := #[]) (mvT hZ106 (wi hw 45 rfl))) (mvT hZ106 (wi hw 45 rfl)) (mvT hZ106 (wi hw 44 rfl)) (by decide) (backOf (W := 0) (rm6 l Z a0 hw [] b103 w2 h106 n0 O106 ⟨Es106, Fs106_kind, Fs106_orderId, Fs106_merchantOrderId, Fs106_status, Fs106_gatewayStatus, Fs106_amount, Fs106_currency, Fs106_chain, Fs106_txHash, Fs106_occurredAt⟩) hZ106 (wi hw 46 rfl) (wi hw 12 rfl) (by decide) (by decide)) q107a q107c (g := (mkF m 75 #[.val (.int p1), .val (.int p2), .val (.int p3), .val (.int (1 : Int32)), .val (.ref w1), .val (.ref w2), .val (.ref b103), .val (.ref b103), .unset] [(.ref b103)])) rfl (by rw [hml]; rfl) (Steps.refl _) (argsL := []) (rest := []) (lenOf pd_5 rfl) rfl (by show 2 * 0 + _ ≤ _; exact Nat.le_of_eq rfl) (hb hby at_75) (fun _ _ => ⟨rfl, e106, (by decide : 5 + 1 ≤ _), (by decide : 66 + 10 ≤ _)⟩)
  dsimp only [Pt.U, Pt.locs, Pt.cells, Pt.slots] at X107 l107 y107 z107 st107 hQ107
  subst l107 y107 z107
  obtain ⟨bp107, rfl, N107q, K107, ⟨Et107, Ft107_kind, Ft107_orderId, Ft107_merchantOrderId, Ft107_status, Ft107_gatewayStatus, Ft107_amount, Ft107_currency, Ft107_chain, Ft107_txHash, Ft107_occurredAt⟩⟩ := hQ107
  obtain ⟨h107, e107⟩ : ∃ z, T107.heap = z := ⟨_, rfl⟩
  rw [e107] at K107 Et107 Ft107_kind Ft107_orderId Ft107_merchantOrderId Ft107_status Ft107_gatewayStatus Ft107_amount Ft107_currency Ft107_chain Ft107_txHash Ft107_occurredAt
  have O107 := O106.keep K107 all0
  have KK107 : Keep h0 h107 [] := KK106.trans K107 all0
  have N107 := Fr.app N106 N107q
  obtain ⟨cq108, kq108, q108a, q108b, q108c⟩ := isOf hZ106 e107 Et107
  obtain ⟨_, _, ⟨T108, L108, k108, n108⟩, -, X108, ⟨Lc108, hQ108, l108, y108, z108⟩, st108⟩ := X107.virtualBack hx (y := (⟨"com/example/postback/postback/Payment", "status", "()Lcom/example/postback/postback/PaymentStatus;"⟩ : MethodName)) (z := (⟨"com/example/postback/postback/Payment", "status", "()Lcom/example/postback/postback/PaymentStatus;"⟩ : MethodName)) hown106 (mvT hZ106 (wi hw 93 rfl)) (mvT hZ106 (wi hw 94 rfl)) (notFace_of_selects (args := #[]) (mvT hZ106 (wi hw 96 rfl))) (mvT hZ106 (wi hw 96 rfl)) (mvT hZ106 (wi hw 95 rfl)) (by decide) (backOf (W := 0) (rm8 l Z a0 hw [] bp107 w2 h107 n0 O107 Ft107_status) hZ106 (wi hw 97 rfl) (wi hw 49 rfl) (by decide) (by decide)) q108a q108c (g := (mkF m 82 #[.val (.int p1), .val (.int p2), .val (.int p3), .val (.int (1 : Int32)), .val (.ref w1), .val (.ref w2), .val (.ref b103), .val (.ref b103), .val (.ref bp107)] [(.ref bp107)])) rfl (by rw [hml]; rfl) (Steps.refl _) (argsL := []) (rest := []) (lenOf pd_6 rfl) rfl (by show 2 * 0 + _ ≤ _; exact Nat.le_of_eq rfl) (hb hby at_82) (fun _ _ => ⟨rfl, e107, (by decide : 6 + 0 ≤ _), (by decide : 76 + 0 ≤ _)⟩)
  dsimp only [Pt.U, Pt.locs, Pt.cells, Pt.slots] at X108 l108 y108 z108 st108 hQ108
  subst l108 y108 z108
  obtain ⟨rfl, N108q, hh108⟩ := hQ108
  have e108 : T108.heap = h107 := hh108
  have N108 := Fr.app N107 N108q
  obtain ⟨cq109, kq109, q109a, q109b, q109c⟩ := isOf hZ106 e108 Et107
  obtain ⟨_, _, ⟨T109, L109, k109, n109⟩, -, X109, ⟨Lc109, hQ109, l109, y109, z109⟩, st109⟩ := X108.virtualBack hx (y := (⟨"com/example/postback/postback/Payment", "kind", "()Lcom/example/postback/postback/PaymentKind;"⟩ : MethodName)) (z := (⟨"com/example/postback/postback/Payment", "kind", "()Lcom/example/postback/postback/PaymentKind;"⟩ : MethodName)) hown106 (mvT hZ106 (wi hw 98 rfl)) (mvT hZ106 (wi hw 99 rfl)) (notFace_of_selects (args := #[]) (mvT hZ106 (wi hw 101 rfl))) (mvT hZ106 (wi hw 101 rfl)) (mvT hZ106 (wi hw 100 rfl)) (by decide) (backOf (W := 0) (rm9 l Z a0 hw [] bp107 w2 h107 n0 O107 Ft107_kind) hZ106 (wi hw 102 rfl) (wi hw 49 rfl) (by decide) (by decide)) q109a q109c (g := (mkF m 94 #[.val (.int p1), .val (.int p2), .val (.int p3), .val (.int (1 : Int32)), .val (.ref w1), .val (.ref w2), .val (.ref b103), .val (.ref b103), .val (.ref bp107)] [(.ref bp107)])) rfl (by rw [hml]; rfl) (Steps.refl _) (argsL := []) (rest := []) (lenOf pd_7 rfl) rfl (by show 2 * 0 + _ ≤ _; exact Nat.le_of_eq rfl) (hb hby at_94) (fun _ _ => ⟨rfl, e108, (by decide : 6 + 0 ≤ _), (by decide : 76 + 0 ≤ _)⟩)
  dsimp only [Pt.U, Pt.locs, Pt.cells, Pt.slots] at X109 l109 y109 z109 st109 hQ109
  subst l109 y109 z109
  obtain ⟨rfl, N109q, hh109⟩ := hQ109
  have e109 : T109.heap = h107 := hh109
  have N109 := Fr.app N108 N109q
  obtain ⟨cq110, kq110, q110a, q110b, q110c⟩ := isOf hZ106 e109 Et107
  obtain ⟨_, _, ⟨T110, L110, k110, n110⟩, -, X110, ⟨Lc110, hQ110, l110, y110, z110⟩, st110⟩ := X109.virtualBack hx (y := (⟨"com/example/postback/postback/Payment", "gatewayStatus", "()Ljava/lang/String;"⟩ : MethodName)) (z := (⟨"com/example/postback/postback/Payment", "gatewayStatus", "()Ljava/lang/String;"⟩ : MethodName)) hown106 (mvT hZ106 (wi hw 103 rfl)) (mvT hZ106 (wi hw 104 rfl)) (notFace_of_selects (args := #[]) (mvT hZ106 (wi hw 106 rfl))) (mvT hZ106 (wi hw 106 rfl)) (mvT hZ106 (wi hw 105 rfl)) (by decide) (backOf (W := 0) (rm10 l Z a0 hw [] bp107 w2 h107 n0 O107 Ft107_gatewayStatus) hZ106 (wi hw 107 rfl) (wi hw 49 rfl) (by decide) (by decide)) q110a q110c (g := (mkF m 104 #[.val (.int p1), .val (.int p2), .val (.int p3), .val (.int (1 : Int32)), .val (.ref w1), .val (.ref w2), .val (.ref b103), .val (.ref b103), .val (.ref bp107)] [(.ref bp107)])) rfl (by rw [hml]; rfl) (Steps.refl _) (argsL := []) (rest := []) (lenOf pd_8 rfl) rfl (by show 2 * 0 + _ ≤ _; exact Nat.le_of_eq rfl) (hb hby at_104) (fun _ _ => ⟨rfl, e109, (by decide : 6 + 0 ≤ _), (by decide : 76 + 0 ≤ _)⟩)
  dsimp only [Pt.U, Pt.locs, Pt.cells, Pt.slots] at X110 l110 y110 z110 st110 hQ110
  subst l110 y110 z110
  obtain ⟨rfl, N110q, hh110⟩ := hQ110
  have e110 : T110.heap = h107 := hh110
  have N110 := Fr.app N109 N110q
  obtain ⟨fs, hr, hrun, hended, hREW⟩ := X110.leaveW hS106 (by rw [e110]; exact (Nat.le_trans (Nat.le_refl _) K107.1)) (v := some (.int (1 : Int32))) (fun h => by rw [Bd.returns] at h; cases h)
  refine ⟨_, _, pre0 _ ?_, hrun, hended, _, _, rfl, ?_, hREW.1, hREW.2.1, hREW.2.2.1, hREW.2.2.2.mono (by decide) (by decide)⟩
  · show Steps p.tables e below (s₁.setTop (mkF m 0 #[.val (.int p1), .val (.int p2), .val (.int p3), .unset, .unset, .unset, .unset, .unset, .unset] [])) _
    refine XS.iloadN X0.here hx rfl (hb hby at_0) rfl ?_
    show Steps p.tables e below (s₁.setTop (mkF m 1 #[.val (.int p1), .val (.int p2), .val (.int p3), .unset, .unset, .unset, .unset, .unset, .unset] [(.int p3)])) _
    refine XS.iconst X0.here hx rfl (hb hby at_1) ?_
    show Steps p.tables e below (s₁.setTop (mkF m 2 #[.val (.int p1), .val (.int p2), .val (.int p3), .unset, .unset, .unset, .unset, .unset, .unset] [(.int (1 : Int32)), (.int p3)])) _
    refine XS.iand X0.here hx rfl (hb hby at_2) rfl ?_
    show Steps p.tables e below (s₁.setTop (mkF m 3 #[.val (.int p1), .val (.int p2), .val (.int p3), .unset, .unset, .unset, .unset, .unset, .unset] [(.int (p3 &&& (1 : Int32)))])) _
    refine XS.ifNo X0.here hx rfl (hb hby at_3) rfl ((if0 _ _).trans (feq k).1) ?_
    show Steps p.tables e below (s₁.setTop (mkF m 6 #[.val (.int p1), .val (.int p2), .val (.int p3), .unset, .unset, .unset, .unset, .unset, .unset] [])) _
    refine XS.iconst X0.here hx rfl (hb hby at_6) ?_
    show Steps p.tables e below (s₁.setTop (mkF m 7 #[.val (.int p1), .val (.int p2), .val (.int p3), .unset, .unset, .unset, .unset, .unset, .unset] [(.int (1 : Int32))])) _
    refine XS.goto X0.here hx rfl (pc0 := 7) (pc' := 11) rfl (hb hby at_7) (by decide) (by decide) ?_
    show Steps p.tables e below (s₁.setTop (mkF m 11 #[.val (.int p1), .val (.int p2), .val (.int p3), .unset, .unset, .unset, .unset, .unset, .unset] [(.int (1 : Int32))])) _
    refine XS.istoreN X0.here hx rfl (hb hby at_11) rfl (l' := #[.val (.int p1), .val (.int p2), .val (.int p3), .val (.int (1 : Int32)), .unset, .unset, .unset, .unset, .unset]) rfl ?_
    show Steps p.tables e below (s₁.setTop (mkF m 12 #[.val (.int p1), .val (.int p2), .val (.int p3), .val (.int (1 : Int32)), .unset, .unset, .unset, .unset, .unset] [])) _
    refine XS.iloadN X0.here hx rfl (hb hby at_12) rfl ?_
    show Steps p.tables e below (s₁.setTop (mkF m 13 #[.val (.int p1), .val (.int p2), .val (.int p3), .val (.int (1 : Int32)), .unset, .unset, .unset, .unset, .unset] [(.int p1)])) _
    refine st101 _ ?_
    show Steps p.tables e below (T101.setTop (mkF m 16 #[.val (.int p1), .val (.int p2), .val (.int p3), .val (.int (1 : Int32)), .unset, .unset, .unset, .unset, .unset] [(.ref w1)])) _
    refine XS.astore X101.here hx rfl (hb hby at_16) rfl rfl (l' := #[.val (.int p1), .val (.int p2), .val (.int p3), .val (.int (1 : Int32)), .val (.ref w1), .unset, .unset, .unset, .unset]) rfl ?_
    show Steps p.tables e below (T101.setTop (mkF m 18 #[.val (.int p1), .val (.int p2), .val (.int p3), .val (.int (1 : Int32)), .val (.ref w1), .unset, .unset, .unset, .unset] [])) _
    refine XS.iloadN X101.here hx rfl (hb hby at_18) rfl ?_
    show Steps p.tables e below (T101.setTop (mkF m 19 #[.val (.int p1), .val (.int p2), .val (.int p3), .val (.int (1 : Int32)), .val (.ref w1), .unset, .unset, .unset, .unset] [(.int p2)])) _
    refine st102 _ ?_
    show Steps p.tables e below (T102.setTop (mkF m 22 #[.val (.int p1), .val (.int p2), .val (.int p3), .val (.int (1 : Int32)), .val (.ref w1), .unset, .unset, .unset, .unset] [(.ref w2)])) _
    refine XS.astore X102.here hx rfl (hb hby at_22) rfl rfl (l' := #[.val (.int p1), .val (.int p2), .val (.int p3), .val (.int (1 : Int32)), .val (.ref w1), .val (.ref w2), .unset, .unset, .unset]) rfl ?_
    show Steps p.tables e below (T102.setTop (mkF m 24 #[.val (.int p1), .val (.int p2), .val (.int p3), .val (.int (1 : Int32)), .val (.ref w1), .val (.ref w2), .unset, .unset, .unset] [])) _
    refine st103 _ ?_
    show Steps p.tables e below (T103.setTop (mkF m 27 #[.val (.int p1), .val (.int p2), .val (.int p3), .val (.int (1 : Int32)), .val (.ref w1), .val (.ref w2), .unset, .unset, .unset] [(.ref b103)])) _
    refine XS.dup X103.here hx rfl (hb hby at_27) rfl rfl ?_
    show Steps p.tables e below (T103.setTop (mkF m 28 #[.val (.int p1), .val (.int p2), .val (.int p3), .val (.int (1 : Int32)), .val (.ref w1), .val (.ref w2), .unset, .unset, .unset] [(.ref b103), (.ref b103)])) _
    refine st104.trans ?_
    show Steps p.tables e below (T104.setTop (mkF m 31 #[.val (.int p1), .val (.int p2), .val (.int p3), .val (.int (1 : Int32)), .val (.ref w1), .val (.ref w2), .unset, .unset, .unset] [(.ref b103)])) _
    refine XS.astore X104.here hx rfl (hb hby at_31) rfl rfl (l' := #[.val (.int p1), .val (.int p2), .val (.int p3), .val (.int (1 : Int32)), .val (.ref w1), .val (.ref w2), .val (.ref b103), .unset, .unset]) rfl ?_
    show Steps p.tables e below (T104.setTop (mkF m 33 #[.val (.int p1), .val (.int p2), .val (.int p3), .val (.int (1 : Int32)), .val (.ref w1), .val (.ref w2), .val (.ref b103), .unset, .unset] [])) _
    refine XS.iloadN X104.here hx rfl (hb hby at_33) rfl ?_
    show Steps p.tables e below (T104.setTop (mkF m 34 #[.val (.int p1), .val (.int p2), .val (.int p3), .val (.int (1 : Int32)), .val (.ref w1), .val (.ref w2), .val (.ref b103), .unset, .unset] [(.int (1 : Int32))])) _
    refine XS.ifNo X104.here hx rfl (hb hby at_34) rfl ((if0 _ _).trans (feq (by decide : ¬ ((1 : Int32) = (0 : Int32)))).1) ?_
    show Steps p.tables e below (T104.setTop (mkF m 37 #[.val (.int p1), .val (.int p2), .val (.int p3), .val (.int (1 : Int32)), .val (.ref w1), .val (.ref w2), .val (.ref b103), .unset, .unset] [])) _
    refine XS.aload X104.here hx rfl (hb hby at_37) rfl rfl ?_
    show Steps p.tables e below (T104.setTop (mkF m 39 #[.val (.int p1), .val (.int p2), .val (.int p3), .val (.int (1 : Int32)), .val (.ref w1), .val (.ref w2), .val (.ref b103), .unset, .unset] [(.ref b103)])) _
    refine XS.aload X104.here hx rfl (hb hby at_39) rfl rfl ?_
    show Steps p.tables e below (T104.setTop (mkF m 41 #[.val (.int p1), .val (.int p2), .val (.int p3), .val (.int (1 : Int32)), .val (.ref w1), .val (.ref w2), .val (.ref b103), .unset, .unset] [(.ref w1), (.ref b103)])) _
    refine st105.trans ?_
    show Steps p.tables e below (T105.setTop (mkF m 44 #[.val (.int p1), .val (.int p2), .val (.int p3), .val (.int (1 : Int32)), .val (.ref w1), .val (.ref w2), .val (.ref b103), .unset, .unset] [(.ref b103)])) _
    refine XS.astore X105.here hx rfl (hb hby at_44) rfl rfl (l' := #[.val (.int p1), .val (.int p2), .val (.int p3), .val (.int (1 : Int32)), .val (.ref w1), .val (.ref w2), .val (.ref b103), .val (.ref b103), .unset]) rfl ?_
    show Steps p.tables e below (T105.setTop (mkF m 46 #[.val (.int p1), .val (.int p2), .val (.int p3), .val (.int (1 : Int32)), .val (.ref w1), .val (.ref w2), .val (.ref b103), .val (.ref b103), .unset] [])) _
    refine XS.aload X105.here hx rfl (hb hby at_46) rfl rfl ?_
    show Steps p.tables e below (T105.setTop (mkF m 48 #[.val (.int p1), .val (.int p2), .val (.int p3), .val (.int (1 : Int32)), .val (.ref w1), .val (.ref w2), .val (.ref b103), .val (.ref b103), .unset] [(.ref b103)])) _
    refine XS.aload X105.here hx rfl (hb hby at_48) rfl rfl ?_
    show Steps p.tables e below (T105.setTop (mkF m 50 #[.val (.int p1), .val (.int p2), .val (.int p3), .val (.int (1 : Int32)), .val (.ref w1), .val (.ref w2), .val (.ref b103), .val (.ref b103), .unset] [(.ref b103), (.ref b103)])) _
    refine Jvm.RoadKit.acmp (g := (mkF m 50 #[.val (.int p1), .val (.int p2), .val (.int p3), .val (.int (1 : Int32)), .val (.ref w1), .val (.ref w2), .val (.ref b103), .val (.ref b103), .unset] [(.ref b103), (.ref b103)])) X105 hx rfl rfl rfl (pc0 := 50) (pc' := 55) (same := true) rfl (hb hby at_50) rfl (decide_eq_true rfl) (by decide) (by decide) ?_
    show Steps p.tables e below (T105.setTop (mkF m 55 #[.val (.int p1), .val (.int p2), .val (.int p3), .val (.int (1 : Int32)), .val (.ref w1), .val (.ref w2), .val (.ref b103), .val (.ref b103), .unset] [])) _
    refine XS.aload X105.here hx rfl (hb hby at_55) rfl rfl ?_
    show Steps p.tables e below (T105.setTop (mkF m 57 #[.val (.int p1), .val (.int p2), .val (.int p3), .val (.int (1 : Int32)), .val (.ref w1), .val (.ref w2), .val (.ref b103), .val (.ref b103), .unset] [(.ref b103)])) _
    refine XS.aload X105.here hx rfl (hb hby at_57) rfl rfl ?_
    show Steps p.tables e below (T105.setTop (mkF m 59 #[.val (.int p1), .val (.int p2), .val (.int p3), .val (.int (1 : Int32)), .val (.ref w1), .val (.ref w2), .val (.ref b103), .val (.ref b103), .unset] [(.ref w2), (.ref b103)])) _
    refine st106.trans ?_
    show Steps p.tables e below (T106.setTop (mkF m 62 #[.val (.int p1), .val (.int p2), .val (.int p3), .val (.int (1 : Int32)), .val (.ref w1), .val (.ref w2), .val (.ref b103), .val (.ref b103), .unset] [(.ref b103)])) _
    refine XS.astore X106.here hx rfl (hb hby at_62) rfl rfl (l' := #[.val (.int p1), .val (.int p2), .val (.int p3), .val (.int (1 : Int32)), .val (.ref w1), .val (.ref w2), .val (.ref b103), .val (.ref b103), .unset]) rfl ?_
    show Steps p.tables e below (T106.setTop (mkF m 64 #[.val (.int p1), .val (.int p2), .val (.int p3), .val (.int (1 : Int32)), .val (.ref w1), .val (.ref w2), .val (.ref b103), .val (.ref b103), .unset] [])) _
    refine XS.aload X106.here hx rfl (hb hby at_64) rfl rfl ?_
    show Steps p.tables e below (T106.setTop (mkF m 66 #[.val (.int p1), .val (.int p2), .val (.int p3), .val (.int (1 : Int32)), .val (.ref w1), .val (.ref w2), .val (.ref b103), .val (.ref b103), .unset] [(.ref b103)])) _
    refine XS.aload X106.here hx rfl (hb hby at_66) rfl rfl ?_
    show Steps p.tables e below (T106.setTop (mkF m 68 #[.val (.int p1), .val (.int p2), .val (.int p3), .val (.int (1 : Int32)), .val (.ref w1), .val (.ref w2), .val (.ref b103), .val (.ref b103), .unset] [(.ref b103), (.ref b103)])) _
    refine Jvm.RoadKit.acmp (g := (mkF m 68 #[.val (.int p1), .val (.int p2), .val (.int p3), .val (.int (1 : Int32)), .val (.ref w1), .val (.ref w2), .val (.ref b103), .val (.ref b103), .unset] [(.ref b103), (.ref b103)])) X106 hx rfl rfl rfl (pc0 := 68) (pc' := 73) (same := true) rfl (hb hby at_68) rfl (decide_eq_true rfl) (by decide) (by decide) ?_
    show Steps p.tables e below (T106.setTop (mkF m 73 #[.val (.int p1), .val (.int p2), .val (.int p3), .val (.int (1 : Int32)), .val (.ref w1), .val (.ref w2), .val (.ref b103), .val (.ref b103), .unset] [])) _
    refine XS.aload X106.here hx rfl (hb hby at_73) rfl rfl ?_
    show Steps p.tables e below (T106.setTop (mkF m 75 #[.val (.int p1), .val (.int p2), .val (.int p3), .val (.int (1 : Int32)), .val (.ref w1), .val (.ref w2), .val (.ref b103), .val (.ref b103), .unset] [(.ref b103)])) _
    refine st107.trans ?_
    show Steps p.tables e below (T107.setTop (mkF m 78 #[.val (.int p1), .val (.int p2), .val (.int p3), .val (.int (1 : Int32)), .val (.ref w1), .val (.ref w2), .val (.ref b103), .val (.ref b103), .unset] [(.ref bp107)])) _
    refine XS.astore X107.here hx rfl (hb hby at_78) rfl rfl (l' := #[.val (.int p1), .val (.int p2), .val (.int p3), .val (.int (1 : Int32)), .val (.ref w1), .val (.ref w2), .val (.ref b103), .val (.ref b103), .val (.ref bp107)]) rfl ?_
    show Steps p.tables e below (T107.setTop (mkF m 80 #[.val (.int p1), .val (.int p2), .val (.int p3), .val (.int (1 : Int32)), .val (.ref w1), .val (.ref w2), .val (.ref b103), .val (.ref b103), .val (.ref bp107)] [])) _
    refine XS.aload X107.here hx rfl (hb hby at_80) rfl rfl ?_
    show Steps p.tables e below (T107.setTop (mkF m 82 #[.val (.int p1), .val (.int p2), .val (.int p3), .val (.int (1 : Int32)), .val (.ref w1), .val (.ref w2), .val (.ref b103), .val (.ref b103), .val (.ref bp107)] [(.ref bp107)])) _
    refine st108.trans ?_
    show Steps p.tables e below (T108.setTop (mkF m 85 #[.val (.int p1), .val (.int p2), .val (.int p3), .val (.int (1 : Int32)), .val (.ref w1), .val (.ref w2), .val (.ref b103), .val (.ref b103), .val (.ref bp107)] [(.ref w2)])) _
    refine XS.aload X108.here hx rfl (hb hby at_85) rfl rfl ?_
    show Steps p.tables e below (T108.setTop (mkF m 87 #[.val (.int p1), .val (.int p2), .val (.int p3), .val (.int (1 : Int32)), .val (.ref w1), .val (.ref w2), .val (.ref b103), .val (.ref b103), .val (.ref bp107)] [(.ref w2), (.ref w2)])) _
    refine Jvm.RoadKit.acmp (g := (mkF m 87 #[.val (.int p1), .val (.int p2), .val (.int p3), .val (.int (1 : Int32)), .val (.ref w1), .val (.ref w2), .val (.ref b103), .val (.ref b103), .val (.ref bp107)] [(.ref w2), (.ref w2)])) X108 hx rfl rfl rfl (pc0 := 87) (pc' := 92) (same := true) rfl (hb hby at_87) rfl (decide_eq_true rfl) (by decide) (by decide) ?_
    show Steps p.tables e below (T108.setTop (mkF m 92 #[.val (.int p1), .val (.int p2), .val (.int p3), .val (.int (1 : Int32)), .val (.ref w1), .val (.ref w2), .val (.ref b103), .val (.ref b103), .val (.ref bp107)] [])) _
    refine XS.aload X108.here hx rfl (hb hby at_92) rfl rfl ?_
    show Steps p.tables e below (T108.setTop (mkF m 94 #[.val (.int p1), .val (.int p2), .val (.int p3), .val (.int (1 : Int32)), .val (.ref w1), .val (.ref w2), .val (.ref b103), .val (.ref b103), .val (.ref bp107)] [(.ref bp107)])) _
    refine st109.trans ?_
    show Steps p.tables e below (T109.setTop (mkF m 97 #[.val (.int p1), .val (.int p2), .val (.int p3), .val (.int (1 : Int32)), .val (.ref w1), .val (.ref w2), .val (.ref b103), .val (.ref b103), .val (.ref bp107)] [.null])) _
    refine XS.ifnullYes X109.here hx rfl (pc0 := 97) (pc' := 102) rfl (hb hby at_97) rfl (by decide) (by decide) ?_
    show Steps p.tables e below (T109.setTop (mkF m 102 #[.val (.int p1), .val (.int p2), .val (.int p3), .val (.int (1 : Int32)), .val (.ref w1), .val (.ref w2), .val (.ref b103), .val (.ref b103), .val (.ref bp107)] [])) _
    refine XS.aload X109.here hx rfl (hb hby at_102) rfl rfl ?_
    show Steps p.tables e below (T109.setTop (mkF m 104 #[.val (.int p1), .val (.int p2), .val (.int p3), .val (.int (1 : Int32)), .val (.ref w1), .val (.ref w2), .val (.ref b103), .val (.ref b103), .val (.ref bp107)] [(.ref bp107)])) _
    refine st110.trans ?_
    show Steps p.tables e below (T110.setTop (mkF m 107 #[.val (.int p1), .val (.int p2), .val (.int p3), .val (.int (1 : Int32)), .val (.ref w1), .val (.ref w2), .val (.ref b103), .val (.ref b103), .val (.ref bp107)] [.null])) _
    refine XS.ifnonnullNo X110.here hx rfl (hb hby at_107) rfl ?_
    show Steps p.tables e below (T110.setTop (mkF m 110 #[.val (.int p1), .val (.int p2), .val (.int p3), .val (.int (1 : Int32)), .val (.ref w1), .val (.ref w2), .val (.ref b103), .val (.ref b103), .val (.ref bp107)] [])) _
    refine XS.iconst X110.here hx rfl (hb hby at_110) ?_
    show Steps p.tables e below (T110.setTop (mkF m 111 #[.val (.int p1), .val (.int p2), .val (.int p3), .val (.int (1 : Int32)), .val (.ref w1), .val (.ref w2), .val (.ref b103), .val (.ref b103), .val (.ref bp107)] [(.int (1 : Int32))])) _
    refine XS.goto X110.here hx rfl (pc0 := 111) (pc' := 115) rfl (hb hby at_111) (by decide) (by decide) ?_
    show Steps p.tables e below (T110.setTop (mkF m 115 #[.val (.int p1), .val (.int p2), .val (.int p3), .val (.int (1 : Int32)), .val (.ref w1), .val (.ref w2), .val (.ref b103), .val (.ref b103), .val (.ref bp107)] [(.int (1 : Int32))])) _
    exact retN X110 hx (t := .boolean) Bd.returns (by simp) (hb hby at_115) hr
  · show Q0 h0 n0 _ T110.heap _
    rw [e110]
    exact ⟨rfl, N110⟩
set_option maxRecDepth 65536 in
set_option maxHeartbeats 40000000 in
theorem rm0_b (l : Launch) (Z : State) (a0 : Array Value) (hw : ∀ d ∈ tables_1, d.before a0 Z = true) (ws : List Jvm.Cond) (p1 p2 p3 : Int32) (w1 w2 wU : Addr) (h0 : Heap) (n0 : Nat) (O0 : Old Z n0 h0) (S1 : Sta Z Z.heap "com/example/postback/postback/PaymentStatus" (pk (irm (p1 &&& (2147483647 : Int32)) (9 : Int32))) "Lcom/example/postback/postback/PaymentStatus;" (.ref w1)) (S2 : Sta Z Z.heap "com/example/postback/postback/PaymentStatus" (pk (irm (p2 &&& (2147483647 : Int32)) (9 : Int32))) "Lcom/example/postback/postback/PaymentStatus;" (.ref w2)) (E1 : Exa Z Z.heap w1 "com/example/postback/postback/PaymentStatus") (E2 : Exa Z Z.heap w2 "com/example/postback/postback/PaymentStatus") (S_UNKNOWN : Sta Z Z.heap "com/example/postback/postback/PaymentStatus" "UNKNOWN" "Lcom/example/postback/postback/PaymentStatus;" (.ref wU)) (k : (p3 &&& (1 : Int32)) = 0) :
    MetFree l x (head1 (Jvm.Cond.code x code maxLocals ret :: ws) room_1) (fun a_ U => a_ = #[(.int p1), (.int p2), (.int p3)] ∧ Z.Warmed39 U.vm ∧ U.heap = h0) (fun _ _ _ _ _ => True) (fun _ U o U' => ∃ v L, o = .returned v ∧ Q0 h0 n0 v U'.heap L ∧ ReturnedEndW U o U' L room_1.cells room_1.slots) := by
  refine MetFree.of_bodySF (plainFor_of_name pn_0) hisR ?_
  intro p e s m args below meth c s₁ Bd hml0 hP hK
  obtain ⟨rfl, hZ, hh⟩ := hP
  have hx := Bd.exec
  have hby := Bd.bytes
  have hml : c.maxLocals = 9 := hml0
  have hown : s.vm.findClass "com/example/postback/postback/BuilderStatusPinLaw" = some m.cls := findClass_of_methodNamed Bd.named
  have hnm := (name_of_methodNamed Bd.named Bd.method).1
  have X0 : Stand p l e room_1 (s.setVm s.vm) m #[(.int p1), (.int p2), (.int p3)] below meth c s₁ [] 0 0 := Stand.of_body Bd
  have e0 : s₁.heap = h0 := by rw [← hh, Bd.state]; rfl
  have N0 := Fr.nil n0
  have pre0 : ∀ tg, Steps p.tables e below (s₁.setTop (mkF m 0 #[.val (.int p1), .val (.int p2), .val (.int p3), .unset, .unset, .unset, .unset, .unset, .unset] [])) tg → Steps p.tables e below (s₁.setTop (entryFrame m #[(.int p1), (.int p2), (.int p3)] maxLocals)) tg := fun tg kq => castTop (ef_III_9m m p1 p2 p3) kq
  have hS0 : s.Since s.vm h0.size := (State.WarmedH.refl s).since _
  have hk0 : h0.size ≤ h0.size := Nat.le_refl _
  obtain ⟨_, _, ⟨T101, L101, k101, n101⟩, -, X101, ⟨Lc101, hQ101, l101, y101, z101⟩, st101⟩ := Jvm.LawKit.callS X0 hx (y := (⟨"com/example/postback/postback/BuilderStatusPinLaw", "pick", "(I)Lcom/example/postback/postback/PaymentStatus;"⟩ : MethodName)) hown (mvT hZ (wi hw 0 rfl)) (mvT hZ (wi hw 1 rfl)) (mvT hZ (wi hw 2 rfl)) (mvT hZ (wi hw 3 rfl)) (by decide) (backOf (W := 0) (rm1 l Z a0 hw [] p1 w1 h0 n0 O0 S1) hZ (wi hw 3 rfl) (wi hw 2 rfl) (by decide) (by decide)) (g := (mkF m 13 #[.val (.int p1), .val (.int p2), .val (.int p3), .val (.int (0 : Int32)), .unset, .unset, .unset, .unset, .unset] [(.int p1)])) rfl (by rw [hml]; rfl) (argsL := [(.int p1)]) (rest := []) (lenOf pd_2 rfl) rfl (by show 2 * 0 + _ ≤ _; exact Nat.le_of_eq rfl) (hb hby at_13) (fun _ _ => ⟨rfl, e0, (by decide : 0 + 0 ≤ _), (by decide : 0 + 0 ≤ _)⟩)
  dsimp only [Pt.U, Pt.locs, Pt.cells, Pt.slots] at X101 l101 y101 z101 st101 hQ101
  subst l101 y101 z101
  obtain ⟨rfl, N101q, hh101⟩ := hQ101
  have e101 : T101.heap = h0 := hh101
  have N101 := Fr.app N0 N101q
  obtain ⟨_, _, ⟨T102, L102, k102, n102⟩, -, X102, ⟨Lc102, hQ102, l102, y102, z102⟩, st102⟩ := Jvm.LawKit.callS X101 hx (y := (⟨"com/example/postback/postback/BuilderStatusPinLaw", "pick", "(I)Lcom/example/postback/postback/PaymentStatus;"⟩ : MethodName)) hown (mvT hZ (wi hw 0 rfl)) (mvT hZ (wi hw 1 rfl)) (mvT hZ (wi hw 2 rfl)) (mvT hZ (wi hw 3 rfl)) (by decide) (backOf (W := 0) (rm1 l Z a0 hw [] p2 w2 h0 n0 O0 S2) hZ (wi hw 3 rfl) (wi hw 2 rfl) (by decide) (by decide)) (g := (mkF m 19 #[.val (.int p1), .val (.int p2), .val (.int p3), .val (.int (0 : Int32)), .val (.ref w1), .unset, .unset, .unset, .unset] [(.int p2)])) rfl (by rw [hml]; rfl) (argsL := [(.int p2)]) (rest := []) (lenOf pd_2 rfl) rfl (by show 2 * 0 + _ ≤ _; exact Nat.le_of_eq rfl) (hb hby at_19) (fun _ _ => ⟨rfl, e101, (by decide : 0 + 0 ≤ _), (by decide : 0 + 0 ≤ _)⟩)
  dsimp only [Pt.U, Pt.locs, Pt.cells, Pt.slots] at X102 l102 y102 z102 st102 hQ102
  subst l102 y102 z102
  obtain ⟨rfl, N102q, hh102⟩ := hQ102
  have e102 : T102.heap = h0 := hh102
  have N102 := Fr.app N101 N102q
  obtain ⟨T103, h103, X103, e103, E103, A103, D103, -, st103⟩ := newO X102 hx hZ hown (wi hw 10 rfl) (wi hw 11 rfl) (wi hw 12 rfl) e102 (g := (mkF m 24 #[.val (.int p1), .val (.int p2), .val (.int p3), .val (.int (0 : Int32)), .val (.ref w1), .val (.ref w2), .unset, .unset, .unset] [])) rfl (hb hby at_24) (by decide) (by decide)
  obtain ⟨b103, g103⟩ : ∃ z, z = h0.size := ⟨_, rfl⟩
  rw [← g103] at A103 D103 st103
  have g_b103 : n0 ≤ b103 := Nat.le_trans (O0.1 ▸ O0.2.1) (Nat.le_of_eq g103.symm)
  have sz_b103 : h0.size ≤ b103 := Nat.le_trans (Nat.le_refl _) (Nat.le_of_eq g103.symm)
  have O103 := O0.ext E103
  have KK103 : Keep h0 h103 [] := (Keep.refl h0 []).ext E103
  have F_status_b103 : Fld Z h103 b103 "com/example/postback/postback/Payment$Builder" "status" "Lcom/example/postback/postback/PaymentStatus;" .null := D103 (Or.inl (wi hw 22 rfl)) (ty := (.object "com/example/postback/postback/PaymentStatus")) (by decide)
  have F_kind_b103 : Fld Z h103 b103 "com/example/postback/postback/Payment$Builder" "kind" "Lcom/example/postback/postback/PaymentKind;" .null := D103 (Or.inl (wi hw 55 rfl)) (ty := (.object "com/example/postback/postback/PaymentKind")) (by decide)
  have F_orderId_b103 : Fld Z h103 b103 "com/example/postback/postback/Payment$Builder" "orderId" "Ljava/lang/String;" .null := D103 (Or.inl (wi hw 59 rfl)) (ty := (.object "java/lang/String")) (by decide)
  have F_merchantOrderId_b103 : Fld Z h103 b103 "com/example/postback/postback/Payment$Builder" "merchantOrderId" "Ljava/lang/String;" .null := D103 (Or.inl (wi hw 63 rfl)) (ty := (.object "java/lang/String")) (by decide)
  have F_gatewayStatus_b103 : Fld Z h103 b103 "com/example/postback/postback/Payment$Builder" "gatewayStatus" "Ljava/lang/String;" .null := D103 (Or.inl (wi hw 70 rfl)) (ty := (.object "java/lang/String")) (by decide)
  have F_amount_b103 : Fld Z h103 b103 "com/example/postback/postback/Payment$Builder" "amount" "Ljava/lang/String;" .null := D103 (Or.inl (wi hw 74 rfl)) (ty := (.object "java/lang/String")) (by decide)
  have F_currency_b103 : Fld Z h103 b103 "com/example/postback/postback/Payment$Builder" "currency" "Ljava/lang/String;" .null := D103 (Or.inl (wi hw 78 rfl)) (ty := (.object "java/lang/String")) (by decide)
  have F_chain_b103 : Fld Z h103 b103 "com/example/postback/postback/Payment$Builder" "chain" "Ljava/lang/String;" .null := D103 (Or.inl (wi hw 82 rfl)) (ty := (.object "java/lang/String")) (by decide)
  have F_txHash_b103 : Fld Z h103 b103 "com/example/postback/postback/Payment$Builder" "txHash" "Ljava/lang/String;" .null := D103 (Or.inl (wi hw 86 rfl)) (ty := (.object "java/lang/String")) (by decide)
  have F_occurredAt_b103 : Fld Z h103 b103 "com/example/postback/postback/Payment$Builder" "occurredAt" "Ljava/lang/Long;" .null := D103 (Or.inl (wi hw 90 rfl)) (ty := (.object "java/lang/Long")) (by decide)
  obtain ⟨_, _, ⟨T104, L104, k104, n104⟩, -, X104, ⟨Lc104, hQ104, l104, y104, z104⟩, st104⟩ := X103.specialBack hx (y := (⟨"com/example/postback/postback/Payment$Builder", "<init>", "()V"⟩ : MethodName)) rfl hown (mvT hZ (wi hw 13 rfl)) (mvT hZ (wi hw 14 rfl)) (mvT hZ (wi hw 15 rfl)) (by decide) (backOf (W := 1) (rm2 l Z a0 hw [] b103 wU h103 n0 O103 ⟨A103, F_kind_b103, F_orderId_b103, F_merchantOrderId_b103, F_status_b103, F_gatewayStatus_b103, F_amount_b103, F_currency_b103, F_chain_b103, F_txHash_b103, F_occurredAt_b103⟩ S_UNKNOWN g_b103) hZ (wi hw 15 rfl) (wi hw 12 rfl) (by decide) (by decide)) (g := (mkF m 28 #[.val (.int p1), .val (.int p2), .val (.int p3), .val (.int (0 : Int32)), .val (.ref w1), .val (.ref w2), .unset, .unset, .unset] [(.ref b103), (.ref b103)])) rfl (by rw [hml]; rfl) (Steps.refl _) (a := b103) (argsL := []) (rest := [(.ref b103)]) (lenOf pd_3 rfl) rfl (by show 2 * 0 + _ ≤ _; exact Nat.le_of_eq rfl) (hb hby at_28) (fun _ _ => ⟨rfl, e103, (by decide : 1 + 0 ≤ _), (by decide : 10 + 0 ≤ _)⟩)
  dsimp only [Pt.U, Pt.locs, Pt.cells, Pt.slots] at X104 l104 y104 z104 st104 hQ104
  subst l104 y104 z104
  obtain ⟨rfl, N104q, K104, ⟨Es104, Fs104_kind, Fs104_orderId, Fs104_merchantOrderId, Fs104_status, Fs104_gatewayStatus, Fs104_amount, Fs104_currency, Fs104_chain, Fs104_txHash, Fs104_occurredAt⟩⟩ := hQ104
  obtain ⟨h104, e104⟩ : ∃ z, T104.heap = z := ⟨_, rfl⟩
  rw [e104] at K104 Es104 Fs104_kind Fs104_orderId Fs104_merchantOrderId Fs104_status Fs104_gatewayStatus Fs104_amount Fs104_currency Fs104_chain Fs104_txHash Fs104_occurredAt
  have O104 := O103.keep K104 (allS g_b103 all0)
  have KK104 : Keep h0 h104 [] := KK103.trans K104 (allS (Or.inr sz_b103) all0)
  have N104 := Fr.app N102 N104q
  obtain ⟨cq105, kq105, q105a, q105b, q105c⟩ := isOf hZ e104 Es104
  obtain ⟨_, _, ⟨T105, L105, k105, n105⟩, -, Xr105, hSr105, gr105, ⟨Lc105, hQ105, l105, y105, z105⟩, st105⟩ := X104.virtualBackS hx (y := (⟨"com/example/postback/postback/Payment$Builder", "status", "(Lcom/example/postback/postback/PaymentStatus;)Lcom/example/postback/postback/Payment$Builder;"⟩ : MethodName)) (z := (⟨"com/example/postback/postback/Payment$Builder", "status", "(Lcom/example/postback/postback/PaymentStatus;)Lcom/example/postback/postback/Payment$Builder;"⟩ : MethodName)) hown (mvT hZ (wi hw 23 rfl)) (mvT hZ (wi hw 24 rfl)) (notFace_of_selects (args := #[]) (mvT hZ (wi hw 26 rfl))) (mvT hZ (wi hw 26 rfl)) (mvT hZ (wi hw 25 rfl)) (by decide) (backOfS (W := 0) (rm4 l Z a0 hw [] b103 w2 (.ref wU) h104 n0 O104 ⟨Es104, Fs104_kind, Fs104_orderId, Fs104_merchantOrderId, Fs104_status, Fs104_gatewayStatus, Fs104_amount, Fs104_currency, Fs104_chain, Fs104_txHash, Fs104_occurredAt⟩ E2 g_b103) hZ (wi hw 27 rfl) (wi hw 12 rfl) (by decide) (by decide)) q105a q105c (g := (mkF m 59 #[.val (.int p1), .val (.int p2), .val (.int p3), .val (.int (0 : Int32)), .val (.ref w1), .val (.ref w2), .val (.ref b103), .unset, .unset] [(.ref w2), (.ref b103)])) rfl (by rw [hml]; rfl) (Steps.refl _) (argsL := [(.ref w2)]) (rest := []) (lenOf pd_4 rfl) rfl (by show 2 * 0 + _ ≤ _; exact Nat.le_of_eq rfl) (hb hby at_59) (fun _ _ => ⟨rfl, e104, (by decide : 1 + 2 ≤ _), (by decide : 10 + 28 ≤ _)⟩)
  dsimp only [Pt.U, Pt.locs, Pt.cells, Pt.slots] at Xr105 l105 y105 z105 st105 hQ105 hSr105 gr105
  subst l105 y105 z105
  obtain ⟨X105, hS105, hZ105, hown105⟩ := rebS hS0 (by rw [e104]; exact (Nat.le_trans (Nat.le_trans hk0 E103.1) K104.1)) Xr105 hSr105 gr105 hZ hown
  obtain ⟨rfl, N105q, K105, ⟨Es105, Fs105_kind, Fs105_orderId, Fs105_merchantOrderId, Fs105_status, Fs105_gatewayStatus, Fs105_amount, Fs105_currency, Fs105_chain, Fs105_txHash, Fs105_occurredAt⟩⟩ := hQ105
  obtain ⟨h105, e105⟩ : ∃ z, T105.heap = z := ⟨_, rfl⟩
  rw [e105] at K105 Es105 Fs105_kind Fs105_orderId Fs105_merchantOrderId Fs105_status Fs105_gatewayStatus Fs105_amount Fs105_currency Fs105_chain Fs105_txHash Fs105_occurredAt
  have O105 := O104.keep K105 (allS g_b103 all0)
  have KK105 : Keep h0 h105 [] := KK104.trans K105 (allS (Or.inr sz_b103) all0)
  rw [e105] at hS105
  have N105 := Fr.app N104 N105q
  obtain ⟨cq106, kq106, q106a, q106b, q106c⟩ := isOf hZ105 e105 Es105
  obtain ⟨_, _, ⟨T106, L106, k106, n106⟩, -, X106, ⟨Lc106, hQ106, l106, y106, z106⟩, st106⟩ := X105.virtualBack hx (y := (⟨"com/example/postback/postback/Payment$Builder", "build", "()Lcom/example/postback/postback/Payment;"⟩ : MethodName)) (z := (⟨"com/example/postback/postback/Payment$Builder", "build", "()Lcom/example/postback/postback/Payment;"⟩ : MethodName)) hown105 (mvT hZ105 (wi hw 42 rfl)) (mvT hZ105 (wi hw 43 rfl)) (notFace_of_selects (args := #[]) (mvT hZ105 (wi hw 45 rfl))) (mvT hZ105 (wi hw 45 rfl)) (mvT hZ105 (wi hw 44 rfl)) (by decide) (backOf (W := 0) (rm6 l Z a0 hw [] b103 w2 h105 n0 O105 ⟨Es105, Fs105_kind, Fs105_orderId, Fs105_merchantOrderId, Fs105_status, Fs105_gatewayStatus, Fs105_amount, Fs105_currency, Fs105_chain, Fs105_txHash, Fs105_occurredAt⟩) hZ105 (wi hw 46 rfl) (wi hw 12 rfl) (by decide) (by decide)) q106a q106c (g := (mkF m 75 #[.val (.int p1), .val (.int p2), .val (.int p3), .val (.int (0 : Int32)), .val (.ref w1), .val (.ref w2), .val (.ref b103), .val (.ref b103), .unset] [(.ref b103)])) rfl (by rw [hml]; rfl) (Steps.refl _) (argsL := []) (rest := []) (lenOf pd_5 rfl) rfl (by show 2 * 0 + _ ≤ _; exact Nat.le_of_eq rfl) (hb hby at_75) (fun _ _ => ⟨rfl, e105, (by decide : 3 + 1 ≤ _), (by decide : 38 + 10 ≤ _)⟩)
  dsimp only [Pt.U, Pt.locs, Pt.cells, Pt.slots] at X106 l106 y106 z106 st106 hQ106
  subst l106 y106 z106
  obtain ⟨bp106, rfl, N106q, K106, ⟨Et106, Ft106_kind, Ft106_orderId, Ft106_merchantOrderId, Ft106_status, Ft106_gatewayStatus, Ft106_amount, Ft106_currency, Ft106_chain, Ft106_txHash, Ft106_occurredAt⟩⟩ := hQ106
  obtain ⟨h106, e106⟩ : ∃ z, T106.heap = z := ⟨_, rfl⟩
  rw [e106] at K106 Et106 Ft106_kind Ft106_orderId Ft106_merchantOrderId Ft106_status Ft106_gatewayStatus Ft106_amount Ft106_currency Ft106_chain Ft106_txHash Ft106_occurredAt
  have O106 := O105.keep K106 all0
  have KK106 : Keep h0 h106 [] := KK105.trans K106 all0
  have N106 := Fr.app N105 N106q
  obtain ⟨cq107, kq107, q107a, q107b, q107c⟩ := isOf hZ105 e106 Et106
  obtain ⟨_, _, ⟨T107, L107, k107, n107⟩, -, X107, ⟨Lc107, hQ107, l107, y107, z107⟩, st107⟩ := X106.virtualBack hx (y := (⟨"com/example/postback/postback/Payment", "status", "()Lcom/example/postback/postback/PaymentStatus;"⟩ : MethodName)) (z := (⟨"com/example/postback/postback/Payment", "status", "()Lcom/example/postback/postback/PaymentStatus;"⟩ : MethodName)) hown105 (mvT hZ105 (wi hw 93 rfl)) (mvT hZ105 (wi hw 94 rfl)) (notFace_of_selects (args := #[]) (mvT hZ105 (wi hw 96 rfl))) (mvT hZ105 (wi hw 96 rfl)) (mvT hZ105 (wi hw 95 rfl)) (by decide) (backOf (W := 0) (rm8 l Z a0 hw [] bp106 w2 h106 n0 O106 Ft106_status) hZ105 (wi hw 97 rfl) (wi hw 49 rfl) (by decide) (by decide)) q107a q107c (g := (mkF m 82 #[.val (.int p1), .val (.int p2), .val (.int p3), .val (.int (0 : Int32)), .val (.ref w1), .val (.ref w2), .val (.ref b103), .val (.ref b103), .val (.ref bp106)] [(.ref bp106)])) rfl (by rw [hml]; rfl) (Steps.refl _) (argsL := []) (rest := []) (lenOf pd_6 rfl) rfl (by show 2 * 0 + _ ≤ _; exact Nat.le_of_eq rfl) (hb hby at_82) (fun _ _ => ⟨rfl, e106, (by decide : 4 + 0 ≤ _), (by decide : 48 + 0 ≤ _)⟩)
  dsimp only [Pt.U, Pt.locs, Pt.cells, Pt.slots] at X107 l107 y107 z107 st107 hQ107
  subst l107 y107 z107
  obtain ⟨rfl, N107q, hh107⟩ := hQ107
  have e107 : T107.heap = h106 := hh107
  have N107 := Fr.app N106 N107q
  obtain ⟨cq108, kq108, q108a, q108b, q108c⟩ := isOf hZ105 e107 Et106
  obtain ⟨_, _, ⟨T108, L108, k108, n108⟩, -, X108, ⟨Lc108, hQ108, l108, y108, z108⟩, st108⟩ := X107.virtualBack hx (y := (⟨"com/example/postback/postback/Payment", "kind", "()Lcom/example/postback/postback/PaymentKind;"⟩ : MethodName)) (z := (⟨"com/example/postback/postback/Payment", "kind", "()Lcom/example/postback/postback/PaymentKind;"⟩ : MethodName)) hown105 (mvT hZ105 (wi hw 98 rfl)) (mvT hZ105 (wi hw 99 rfl)) (notFace_of_selects (args := #[]) (mvT hZ105 (wi hw 101 rfl))) (mvT hZ105 (wi hw 101 rfl)) (mvT hZ105 (wi hw 100 rfl)) (by decide) (backOf (W := 0) (rm9 l Z a0 hw [] bp106 w2 h106 n0 O106 Ft106_kind) hZ105 (wi hw 102 rfl) (wi hw 49 rfl) (by decide) (by decide)) q108a q108c (g := (mkF m 94 #[.val (.int p1), .val (.int p2), .val (.int p3), .val (.int (0 : Int32)), .val (.ref w1), .val (.ref w2), .val (.ref b103), .val (.ref b103), .val (.ref bp106)] [(.ref bp106)])) rfl (by rw [hml]; rfl) (Steps.refl _) (argsL := []) (rest := []) (lenOf pd_7 rfl) rfl (by show 2 * 0 + _ ≤ _; exact Nat.le_of_eq rfl) (hb hby at_94) (fun _ _ => ⟨rfl, e107, (by decide : 4 + 0 ≤ _), (by decide : 48 + 0 ≤ _)⟩)
  dsimp only [Pt.U, Pt.locs, Pt.cells, Pt.slots] at X108 l108 y108 z108 st108 hQ108
  subst l108 y108 z108
  obtain ⟨rfl, N108q, hh108⟩ := hQ108
  have e108 : T108.heap = h106 := hh108
  have N108 := Fr.app N107 N108q
  obtain ⟨cq109, kq109, q109a, q109b, q109c⟩ := isOf hZ105 e108 Et106
  obtain ⟨_, _, ⟨T109, L109, k109, n109⟩, -, X109, ⟨Lc109, hQ109, l109, y109, z109⟩, st109⟩ := X108.virtualBack hx (y := (⟨"com/example/postback/postback/Payment", "gatewayStatus", "()Ljava/lang/String;"⟩ : MethodName)) (z := (⟨"com/example/postback/postback/Payment", "gatewayStatus", "()Ljava/lang/String;"⟩ : MethodName)) hown105 (mvT hZ105 (wi hw 103 rfl)) (mvT hZ105 (wi hw 104 rfl)) (notFace_of_selects (args := #[]) (mvT hZ105 (wi hw 106 rfl))) (mvT hZ105 (wi hw 106 rfl)) (mvT hZ105 (wi hw 105 rfl)) (by decide) (backOf (W := 0) (rm10 l Z a0 hw [] bp106 w2 h106 n0 O106 Ft106_gatewayStatus) hZ105 (wi hw 107 rfl) (wi hw 49 rfl) (by decide) (by decide)) q109a q109c (g := (mkF m 104 #[.val (.int p1), .val (.int p2), .val (.int p3), .val (.int (0 : Int32)), .val (.ref w1), .val (.ref w2), .val (.ref b103), .val (.ref b103), .val (.ref bp106)] [(.ref bp106)])) rfl (by rw [hml]; rfl) (Steps.refl _) (argsL := []) (rest := []) (lenOf pd_8 rfl) rfl (by show 2 * 0 + _ ≤ _; exact Nat.le_of_eq rfl) (hb hby at_104) (fun _ _ => ⟨rfl, e108, (by decide : 4 + 0 ≤ _), (by decide : 48 + 0 ≤ _)⟩)
  dsimp only [Pt.U, Pt.locs, Pt.cells, Pt.slots] at X109 l109 y109 z109 st109 hQ109
  subst l109 y109 z109
  obtain ⟨rfl, N109q, hh109⟩ := hQ109
  have e109 : T109.heap = h106 := hh109
  have N109 := Fr.app N108 N109q
  obtain ⟨fs, hr, hrun, hended, hREW⟩ := X109.leaveW hS105 (by rw [e109]; exact (Nat.le_trans (Nat.le_refl _) K106.1)) (v := some (.int (1 : Int32))) (fun h => by rw [Bd.returns] at h; cases h)
  refine ⟨_, _, pre0 _ ?_, hrun, hended, _, _, rfl, ?_, hREW.1, hREW.2.1, hREW.2.2.1, hREW.2.2.2.mono (by decide) (by decide)⟩
  · show Steps p.tables e below (s₁.setTop (mkF m 0 #[.val (.int p1), .val (.int p2), .val (.int p3), .unset, .unset, .unset, .unset, .unset, .unset] [])) _
    refine XS.iloadN X0.here hx rfl (hb hby at_0) rfl ?_
    show Steps p.tables e below (s₁.setTop (mkF m 1 #[.val (.int p1), .val (.int p2), .val (.int p3), .unset, .unset, .unset, .unset, .unset, .unset] [(.int p3)])) _
    refine XS.iconst X0.here hx rfl (hb hby at_1) ?_
    show Steps p.tables e below (s₁.setTop (mkF m 2 #[.val (.int p1), .val (.int p2), .val (.int p3), .unset, .unset, .unset, .unset, .unset, .unset] [(.int (1 : Int32)), (.int p3)])) _
    refine XS.iand X0.here hx rfl (hb hby at_2) rfl ?_
    show Steps p.tables e below (s₁.setTop (mkF m 3 #[.val (.int p1), .val (.int p2), .val (.int p3), .unset, .unset, .unset, .unset, .unset, .unset] [(.int (p3 &&& (1 : Int32)))])) _
    refine XS.ifYes X0.here hx rfl (pc0 := 3) (pc' := 10) rfl (hb hby at_3) rfl ((if0 _ _).trans (teq k).1) (by decide) (by decide) ?_
    show Steps p.tables e below (s₁.setTop (mkF m 10 #[.val (.int p1), .val (.int p2), .val (.int p3), .unset, .unset, .unset, .unset, .unset, .unset] [])) _
    refine XS.iconst X0.here hx rfl (hb hby at_10) ?_
    show Steps p.tables e below (s₁.setTop (mkF m 11 #[.val (.int p1), .val (.int p2), .val (.int p3), .unset, .unset, .unset, .unset, .unset, .unset] [(.int (0 : Int32))])) _
    refine XS.istoreN X0.here hx rfl (hb hby at_11) rfl (l' := #[.val (.int p1), .val (.int p2), .val (.int p3), .val (.int (0 : Int32)), .unset, .unset, .unset, .unset, .unset]) rfl ?_
    show Steps p.tables e below (s₁.setTop (mkF m 12 #[.val (.int p1), .val (.int p2), .val (.int p3), .val (.int (0 : Int32)), .unset, .unset, .unset, .unset, .unset] [])) _
    refine XS.iloadN X0.here hx rfl (hb hby at_12) rfl ?_
    show Steps p.tables e below (s₁.setTop (mkF m 13 #[.val (.int p1), .val (.int p2), .val (.int p3), .val (.int (0 : Int32)), .unset, .unset, .unset, .unset, .unset] [(.int p1)])) _
    refine st101 _ ?_
    show Steps p.tables e below (T101.setTop (mkF m 16 #[.val (.int p1), .val (.int p2), .val (.int p3), .val (.int (0 : Int32)), .unset, .unset, .unset, .unset, .unset] [(.ref w1)])) _
    refine XS.astore X101.here hx rfl (hb hby at_16) rfl rfl (l' := #[.val (.int p1), .val (.int p2), .val (.int p3), .val (.int (0 : Int32)), .val (.ref w1), .unset, .unset, .unset, .unset]) rfl ?_
    show Steps p.tables e below (T101.setTop (mkF m 18 #[.val (.int p1), .val (.int p2), .val (.int p3), .val (.int (0 : Int32)), .val (.ref w1), .unset, .unset, .unset, .unset] [])) _
    refine XS.iloadN X101.here hx rfl (hb hby at_18) rfl ?_
    show Steps p.tables e below (T101.setTop (mkF m 19 #[.val (.int p1), .val (.int p2), .val (.int p3), .val (.int (0 : Int32)), .val (.ref w1), .unset, .unset, .unset, .unset] [(.int p2)])) _
    refine st102 _ ?_
    show Steps p.tables e below (T102.setTop (mkF m 22 #[.val (.int p1), .val (.int p2), .val (.int p3), .val (.int (0 : Int32)), .val (.ref w1), .unset, .unset, .unset, .unset] [(.ref w2)])) _
    refine XS.astore X102.here hx rfl (hb hby at_22) rfl rfl (l' := #[.val (.int p1), .val (.int p2), .val (.int p3), .val (.int (0 : Int32)), .val (.ref w1), .val (.ref w2), .unset, .unset, .unset]) rfl ?_
    show Steps p.tables e below (T102.setTop (mkF m 24 #[.val (.int p1), .val (.int p2), .val (.int p3), .val (.int (0 : Int32)), .val (.ref w1), .val (.ref w2), .unset, .unset, .unset] [])) _
    refine st103 _ ?_
    show Steps p.tables e below (T103.setTop (mkF m 27 #[.val (.int p1), .val (.int p2), .val (.int p3), .val (.int (0 : Int32)), .val (.ref w1), .val (.ref w2), .unset, .unset, .unset] [(.ref b103)])) _
    refine XS.dup X103.here hx rfl (hb hby at_27) rfl rfl ?_
    show Steps p.tables e below (T103.setTop (mkF m 28 #[.val (.int p1), .val (.int p2), .val (.int p3), .val (.int (0 : Int32)), .val (.ref w1), .val (.ref w2), .unset, .unset, .unset] [(.ref b103), (.ref b103)])) _
    refine st104.trans ?_
    show Steps p.tables e below (T104.setTop (mkF m 31 #[.val (.int p1), .val (.int p2), .val (.int p3), .val (.int (0 : Int32)), .val (.ref w1), .val (.ref w2), .unset, .unset, .unset] [(.ref b103)])) _
    refine XS.astore X104.here hx rfl (hb hby at_31) rfl rfl (l' := #[.val (.int p1), .val (.int p2), .val (.int p3), .val (.int (0 : Int32)), .val (.ref w1), .val (.ref w2), .val (.ref b103), .unset, .unset]) rfl ?_
    show Steps p.tables e below (T104.setTop (mkF m 33 #[.val (.int p1), .val (.int p2), .val (.int p3), .val (.int (0 : Int32)), .val (.ref w1), .val (.ref w2), .val (.ref b103), .unset, .unset] [])) _
    refine XS.iloadN X104.here hx rfl (hb hby at_33) rfl ?_
    show Steps p.tables e below (T104.setTop (mkF m 34 #[.val (.int p1), .val (.int p2), .val (.int p3), .val (.int (0 : Int32)), .val (.ref w1), .val (.ref w2), .val (.ref b103), .unset, .unset] [(.int (0 : Int32))])) _
    refine XS.ifYes X104.here hx rfl (pc0 := 34) (pc' := 55) rfl (hb hby at_34) rfl ((if0 _ _).trans (teq (by decide : (0 : Int32) = (0 : Int32))).1) (by decide) (by decide) ?_
    show Steps p.tables e below (T104.setTop (mkF m 55 #[.val (.int p1), .val (.int p2), .val (.int p3), .val (.int (0 : Int32)), .val (.ref w1), .val (.ref w2), .val (.ref b103), .unset, .unset] [])) _
    refine XS.aload X104.here hx rfl (hb hby at_55) rfl rfl ?_
    show Steps p.tables e below (T104.setTop (mkF m 57 #[.val (.int p1), .val (.int p2), .val (.int p3), .val (.int (0 : Int32)), .val (.ref w1), .val (.ref w2), .val (.ref b103), .unset, .unset] [(.ref b103)])) _
    refine XS.aload X104.here hx rfl (hb hby at_57) rfl rfl ?_
    show Steps p.tables e below (T104.setTop (mkF m 59 #[.val (.int p1), .val (.int p2), .val (.int p3), .val (.int (0 : Int32)), .val (.ref w1), .val (.ref w2), .val (.ref b103), .unset, .unset] [(.ref w2), (.ref b103)])) _
    refine st105.trans ?_
    show Steps p.tables e below (T105.setTop (mkF m 62 #[.val (.int p1), .val (.int p2), .val (.int p3), .val (.int (0 : Int32)), .val (.ref w1), .val (.ref w2), .val (.ref b103), .unset, .unset] [(.ref b103)])) _
    refine XS.astore X105.here hx rfl (hb hby at_62) rfl rfl (l' := #[.val (.int p1), .val (.int p2), .val (.int p3), .val (.int (0 : Int32)), .val (.ref w1), .val (.ref w2), .val (.ref b103), .val (.ref b103), .unset]) rfl ?_
    show Steps p.tables e below (T105.setTop (mkF m 64 #[.val (.int p1), .val (.int p2), .val (.int p3), .val (.int (0 : Int32)), .val (.ref w1), .val (.ref w2), .val (.ref b103), .val (.ref b103), .unset] [])) _
    refine XS.aload X105.here hx rfl (hb hby at_64) rfl rfl ?_
    show Steps p.tables e below (T105.setTop (mkF m 66 #[.val (.int p1), .val (.int p2), .val (.int p3), .val (.int (0 : Int32)), .val (.ref w1), .val (.ref w2), .val (.ref b103), .val (.ref b103), .unset] [(.ref b103)])) _
    refine XS.aload X105.here hx rfl (hb hby at_66) rfl rfl ?_
    show Steps p.tables e below (T105.setTop (mkF m 68 #[.val (.int p1), .val (.int p2), .val (.int p3), .val (.int (0 : Int32)), .val (.ref w1), .val (.ref w2), .val (.ref b103), .val (.ref b103), .unset] [(.ref b103), (.ref b103)])) _
    refine Jvm.RoadKit.acmp (g := (mkF m 68 #[.val (.int p1), .val (.int p2), .val (.int p3), .val (.int (0 : Int32)), .val (.ref w1), .val (.ref w2), .val (.ref b103), .val (.ref b103), .unset] [(.ref b103), (.ref b103)])) X105 hx rfl rfl rfl (pc0 := 68) (pc' := 73) (same := true) rfl (hb hby at_68) rfl (decide_eq_true rfl) (by decide) (by decide) ?_
    show Steps p.tables e below (T105.setTop (mkF m 73 #[.val (.int p1), .val (.int p2), .val (.int p3), .val (.int (0 : Int32)), .val (.ref w1), .val (.ref w2), .val (.ref b103), .val (.ref b103), .unset] [])) _
    refine XS.aload X105.here hx rfl (hb hby at_73) rfl rfl ?_
    show Steps p.tables e below (T105.setTop (mkF m 75 #[.val (.int p1), .val (.int p2), .val (.int p3), .val (.int (0 : Int32)), .val (.ref w1), .val (.ref w2), .val (.ref b103), .val (.ref b103), .unset] [(.ref b103)])) _
    refine st106.trans ?_
    show Steps p.tables e below (T106.setTop (mkF m 78 #[.val (.int p1), .val (.int p2), .val (.int p3), .val (.int (0 : Int32)), .val (.ref w1), .val (.ref w2), .val (.ref b103), .val (.ref b103), .unset] [(.ref bp106)])) _
    refine XS.astore X106.here hx rfl (hb hby at_78) rfl rfl (l' := #[.val (.int p1), .val (.int p2), .val (.int p3), .val (.int (0 : Int32)), .val (.ref w1), .val (.ref w2), .val (.ref b103), .val (.ref b103), .val (.ref bp106)]) rfl ?_
    show Steps p.tables e below (T106.setTop (mkF m 80 #[.val (.int p1), .val (.int p2), .val (.int p3), .val (.int (0 : Int32)), .val (.ref w1), .val (.ref w2), .val (.ref b103), .val (.ref b103), .val (.ref bp106)] [])) _
    refine XS.aload X106.here hx rfl (hb hby at_80) rfl rfl ?_
    show Steps p.tables e below (T106.setTop (mkF m 82 #[.val (.int p1), .val (.int p2), .val (.int p3), .val (.int (0 : Int32)), .val (.ref w1), .val (.ref w2), .val (.ref b103), .val (.ref b103), .val (.ref bp106)] [(.ref bp106)])) _
    refine st107.trans ?_
    show Steps p.tables e below (T107.setTop (mkF m 85 #[.val (.int p1), .val (.int p2), .val (.int p3), .val (.int (0 : Int32)), .val (.ref w1), .val (.ref w2), .val (.ref b103), .val (.ref b103), .val (.ref bp106)] [(.ref w2)])) _
    refine XS.aload X107.here hx rfl (hb hby at_85) rfl rfl ?_
    show Steps p.tables e below (T107.setTop (mkF m 87 #[.val (.int p1), .val (.int p2), .val (.int p3), .val (.int (0 : Int32)), .val (.ref w1), .val (.ref w2), .val (.ref b103), .val (.ref b103), .val (.ref bp106)] [(.ref w2), (.ref w2)])) _
    refine Jvm.RoadKit.acmp (g := (mkF m 87 #[.val (.int p1), .val (.int p2), .val (.int p3), .val (.int (0 : Int32)), .val (.ref w1), .val (.ref w2), .val (.ref b103), .val (.ref b103), .val (.ref bp106)] [(.ref w2), (.ref w2)])) X107 hx rfl rfl rfl (pc0 := 87) (pc' := 92) (same := true) rfl (hb hby at_87) rfl (decide_eq_true rfl) (by decide) (by decide) ?_
    show Steps p.tables e below (T107.setTop (mkF m 92 #[.val (.int p1), .val (.int p2), .val (.int p3), .val (.int (0 : Int32)), .val (.ref w1), .val (.ref w2), .val (.ref b103), .val (.ref b103), .val (.ref bp106)] [])) _
    refine XS.aload X107.here hx rfl (hb hby at_92) rfl rfl ?_
    show Steps p.tables e below (T107.setTop (mkF m 94 #[.val (.int p1), .val (.int p2), .val (.int p3), .val (.int (0 : Int32)), .val (.ref w1), .val (.ref w2), .val (.ref b103), .val (.ref b103), .val (.ref bp106)] [(.ref bp106)])) _
    refine st108.trans ?_
    show Steps p.tables e below (T108.setTop (mkF m 97 #[.val (.int p1), .val (.int p2), .val (.int p3), .val (.int (0 : Int32)), .val (.ref w1), .val (.ref w2), .val (.ref b103), .val (.ref b103), .val (.ref bp106)] [.null])) _
    refine XS.ifnullYes X108.here hx rfl (pc0 := 97) (pc' := 102) rfl (hb hby at_97) rfl (by decide) (by decide) ?_
    show Steps p.tables e below (T108.setTop (mkF m 102 #[.val (.int p1), .val (.int p2), .val (.int p3), .val (.int (0 : Int32)), .val (.ref w1), .val (.ref w2), .val (.ref b103), .val (.ref b103), .val (.ref bp106)] [])) _
    refine XS.aload X108.here hx rfl (hb hby at_102) rfl rfl ?_
    show Steps p.tables e below (T108.setTop (mkF m 104 #[.val (.int p1), .val (.int p2), .val (.int p3), .val (.int (0 : Int32)), .val (.ref w1), .val (.ref w2), .val (.ref b103), .val (.ref b103), .val (.ref bp106)] [(.ref bp106)])) _
    refine st109.trans ?_
    show Steps p.tables e below (T109.setTop (mkF m 107 #[.val (.int p1), .val (.int p2), .val (.int p3), .val (.int (0 : Int32)), .val (.ref w1), .val (.ref w2), .val (.ref b103), .val (.ref b103), .val (.ref bp106)] [.null])) _
    refine XS.ifnonnullNo X109.here hx rfl (hb hby at_107) rfl ?_
    show Steps p.tables e below (T109.setTop (mkF m 110 #[.val (.int p1), .val (.int p2), .val (.int p3), .val (.int (0 : Int32)), .val (.ref w1), .val (.ref w2), .val (.ref b103), .val (.ref b103), .val (.ref bp106)] [])) _
    refine XS.iconst X109.here hx rfl (hb hby at_110) ?_
    show Steps p.tables e below (T109.setTop (mkF m 111 #[.val (.int p1), .val (.int p2), .val (.int p3), .val (.int (0 : Int32)), .val (.ref w1), .val (.ref w2), .val (.ref b103), .val (.ref b103), .val (.ref bp106)] [(.int (1 : Int32))])) _
    refine XS.goto X109.here hx rfl (pc0 := 111) (pc' := 115) rfl (hb hby at_111) (by decide) (by decide) ?_
    show Steps p.tables e below (T109.setTop (mkF m 115 #[.val (.int p1), .val (.int p2), .val (.int p3), .val (.int (0 : Int32)), .val (.ref w1), .val (.ref w2), .val (.ref b103), .val (.ref b103), .val (.ref bp106)] [(.int (1 : Int32))])) _
    exact retN X109 hx (t := .boolean) Bd.returns (by simp) (hb hby at_115) hr
  · show Q0 h0 n0 _ T109.heap _
    rw [e109]
    exact ⟨rfl, N109⟩
set_option maxRecDepth 65536 in
set_option maxHeartbeats 40000000 in
theorem comes_1 {Post : Tables → Env → Array Value → State → Outcome → State → Prop} (hpost : ∀ tb e args s v u, (limb_1_1.after args s (.returned v) u = true ∧ limb_1_2.after args s (.returned v) u = true ∧ True) → ReturnedEndW s (.returned v) u (Jvm.fieldLocs frame_1_writes args s ++ Jvm.arrayLocs frame_1_arrays args s ++ Jvm.staticLocs frame_1_statics s) 16 1152 → Post tb e args s (.returned v) u) :
    ArmFor flags0 classFile x code maxLocals ret World_1 tables_1 room_1 Calls_1 rest_1 Pre_1 Post := by
  intro l hfl _ _ p e ha hc hk s m args below hf hA hF happ hP
  obtain ⟨hcalls, hrest, hpre⟩ := hP
  obtain ⟨-, -, -, hnamed, -, -, -, hat⟩ := (Spec.applies_iff hf).mp happ
  obtain ⟨hg, hn⟩ := and_e (Cond.before_iff.mp (show (Jvm.Cond.and given_1 narrow_1).before args s = true from hpre))
  obtain ⟨hcnt, hi0⟩ := and_e hg
  obtain ⟨ha0, hb0⟩ := and_e hi0
  obtain ⟨ha1, hb1⟩ := and_e hb0
  obtain ⟨w0, w1, w2, rfl⟩ : ∃ w0 w1 w2 : Value, args = #[w0, w1, w2] := by
    have hs : args.size = 3 := by simpa [Cond.value, given_1] using hcnt
    obtain ⟨L⟩ := args
    match L, hs with
    | [w0, w1, w2], _ => exact ⟨w0, w1, w2, rfl⟩
  have hw := fun d (hd : d ∈ tables_1) => atoms_spec (ws := Jvm.Cond.code x code maxLocals ret :: tables_1) hat d (List.mem_cons_of_mem _ hd)
  have hfit : Fit s := fun {y c} hc i hi => by
    obtain ⟨ha, rfl⟩ := Array.getElem?_eq_some_iff.mp hc
    have q := List.all_eq_true.mp ((Array.all_eq_true_iff_forall_mem.mp hF) _ (Array.getElem_mem ha)) i (List.mem_range.mpr hi)
    simpa [Array.getElem?_eq_getElem hi] using q
  obtain ⟨i0, ei0⟩ := is_v ha0
  obtain rfl : w0 = (.int i0) := Option.some.inj ei0
  obtain ⟨i1, ei1⟩ := is_v ha1
  obtain rfl : w1 = (.int i1) := Option.some.inj ei1
  obtain ⟨i2, ei2⟩ := is_v hb1
  obtain rfl : w2 = (.int i2) := Option.some.inj ei2
  obtain ⟨l1, r1⟩ := and_e hn
  obtain ⟨l2, r2⟩ := and_e r1
  obtain ⟨l3, r3⟩ := and_e r2
  obtain ⟨l4, r4⟩ := and_e r3
  obtain ⟨l5, r5⟩ := and_e r4
  obtain ⟨l6, r6⟩ := and_e r5
  obtain ⟨l7, r7⟩ := and_e r6
  obtain ⟨l8, r8⟩ := and_e r7
  obtain ⟨w_PENDING, ev_PENDING⟩ := exa_v l1
  have S_PENDING := Sta.start ev_PENDING (Or.inr ⟨(wi hw 6 rfl), (wi hw 7 rfl)⟩)
  have E_PENDING := Exa.start ev_PENDING l1
  obtain ⟨w_MISMATCH, ev_MISMATCH⟩ := exa_v l2
  have S_MISMATCH := Sta.start ev_MISMATCH (Or.inr ⟨(wi hw 6 rfl), (wi hw 9 rfl)⟩)
  have E_MISMATCH := Exa.start ev_MISMATCH l2
  obtain ⟨w_UNKNOWN, ev_UNKNOWN⟩ := exa_v l3
  have S_UNKNOWN := Sta.start ev_UNKNOWN (Or.inr ⟨(wi hw 6 rfl), (wi hw 20 rfl)⟩)
  have E_UNKNOWN := Exa.start ev_UNKNOWN l3
  obtain ⟨w_CONFIRMING, ev_CONFIRMING⟩ := exa_v l4
  have S_CONFIRMING := Sta.start ev_CONFIRMING (Or.inr ⟨(wi hw 6 rfl), (wi hw 109 rfl)⟩)
  have E_CONFIRMING := Exa.start ev_CONFIRMING l4
  obtain ⟨w_PAID, ev_PAID⟩ := exa_v l5
  have S_PAID := Sta.start ev_PAID (Or.inr ⟨(wi hw 6 rfl), (wi hw 111 rfl)⟩)
  have E_PAID := Exa.start ev_PAID l5
  obtain ⟨w_REJECTED, ev_REJECTED⟩ := exa_v l6
  have S_REJECTED := Sta.start ev_REJECTED (Or.inr ⟨(wi hw 6 rfl), (wi hw 114 rfl)⟩)
  have E_REJECTED := Exa.start ev_REJECTED l6
  obtain ⟨w_AWAITING_APPROVAL, ev_AWAITING_APPROVAL⟩ := exa_v l7
  have S_AWAITING_APPROVAL := Sta.start ev_AWAITING_APPROVAL (Or.inr ⟨(wi hw 6 rfl), (wi hw 116 rfl)⟩)
  have E_AWAITING_APPROVAL := Exa.start ev_AWAITING_APPROVAL l7
  obtain ⟨w_FAILED, ev_FAILED⟩ := exa_v l8
  have S_FAILED := Sta.start ev_FAILED (Or.inr ⟨(wi hw 6 rfl), (wi hw 118 rfl)⟩)
  have E_FAILED := Exa.start ev_FAILED l8
  obtain ⟨w_EXPIRED, ev_EXPIRED⟩ := exa_v r8
  have S_EXPIRED := Sta.start ev_EXPIRED (Or.inr ⟨(wi hw 6 rfl), (wi hw 120 rfl)⟩)
  have E_EXPIRED := Exa.start ev_EXPIRED r8
  have all : ∀ i : Int32, ∃ w, Sta s s.heap "com/example/postback/postback/PaymentStatus" (pk i) "Lcom/example/postback/postback/PaymentStatus;" (.ref w) ∧ Exa s s.heap w "com/example/postback/postback/PaymentStatus" := by
    intro i
    by_cases k0 : i = 0
    · exact ⟨w_PENDING, (show pk i = "PENDING" by unfold pk; rw [if_pos k0]).symm ▸ S_PENDING, E_PENDING⟩
    by_cases k1 : i = 1
    · exact ⟨w_CONFIRMING, (show pk i = "CONFIRMING" by unfold pk; rw [if_neg k0, if_pos k1]).symm ▸ S_CONFIRMING, E_CONFIRMING⟩
    by_cases k2 : i = 2
    · exact ⟨w_PAID, (show pk i = "PAID" by unfold pk; rw [if_neg k0, if_neg k1, if_pos k2]).symm ▸ S_PAID, E_PAID⟩
    by_cases k3 : i = 3
    · exact ⟨w_MISMATCH, (show pk i = "MISMATCH" by unfold pk; rw [if_neg k0, if_neg k1, if_neg k2, if_pos k3]).symm ▸ S_MISMATCH, E_MISMATCH⟩
    by_cases k4 : i = 4
    · exact ⟨w_EXPIRED, (show pk i = "EXPIRED" by unfold pk; rw [if_neg k0, if_neg k1, if_neg k2, if_neg k3, if_pos k4]).symm ▸ S_EXPIRED, E_EXPIRED⟩
    by_cases k5 : i = 5
    · exact ⟨w_FAILED, (show pk i = "FAILED" by unfold pk; rw [if_neg k0, if_neg k1, if_neg k2, if_neg k3, if_neg k4, if_pos k5]).symm ▸ S_FAILED, E_FAILED⟩
    by_cases k6 : i = 6
    · exact ⟨w_AWAITING_APPROVAL, (show pk i = "AWAITING_APPROVAL" by unfold pk; rw [if_neg k0, if_neg k1, if_neg k2, if_neg k3, if_neg k4, if_neg k5, if_pos k6]).symm ▸ S_AWAITING_APPROVAL, E_AWAITING_APPROVAL⟩
    by_cases k7 : i = 7
    · exact ⟨w_REJECTED, (show pk i = "REJECTED" by unfold pk; rw [if_neg k0, if_neg k1, if_neg k2, if_neg k3, if_neg k4, if_neg k5, if_neg k6, if_pos k7]).symm ▸ S_REJECTED, E_REJECTED⟩
    · exact ⟨w_UNKNOWN, (show pk i = "UNKNOWN" by unfold pk; rw [if_neg k0, if_neg k1, if_neg k2, if_neg k3, if_neg k4, if_neg k5, if_neg k6, if_neg k7]).symm ▸ S_UNKNOWN, E_UNKNOWN⟩
  obtain ⟨w1, S1, E1⟩ := all (irm (i0 &&& (2147483647 : Int32)) (9 : Int32))
  obtain ⟨w2, S2, E2⟩ := all (irm (i1 &&& (2147483647 : Int32)) (9 : Int32))
  have key : MetFree l x (head1 (Jvm.Cond.code x code maxLocals ret :: tables_1) room_1) (fun a U => a = #[(.int i0), (.int i1), (.int i2)] ∧ s.Warmed39 U.vm ∧ U.heap = s.heap) (fun _ _ _ _ _ => True) (fun _ U o U' => ∃ v L, o = .returned v ∧ Q0 s.heap s.heap.size v U'.heap L ∧ ReturnedEndW U o U' L room_1.cells room_1.slots) := by
    by_cases k : (i2 &&& (1 : Int32)) = 0
    · exact rm0_b l s _ hw tables_1 i0 i1 i2 w1 w2 w_UNKNOWN s.heap s.heap.size (Old.start s) S1 S2 E1 E2 S_UNKNOWN k
    · exact rm0_a l s _ hw tables_1 i0 i1 i2 w1 w2 w_UNKNOWN s.heap s.heap.size (Old.start s) S1 S2 E1 E2 S_UNKNOWN k
  obtain ⟨n, o, h1, h2, h3, _, L, rfl, ⟨rfl, N⟩, hq⟩ := key p e ha hc hk s m _ below hf ((Spec.applies_iff_loose hf).mp happ).1 ⟨rfl, State.Warmed39.refl s, rfl⟩ trivial
  refine ⟨n, _, h1, h2, h3, hpost _ _ _ _ _ _ ⟨Cond.after_iff.mpr rfl, Cond.after_iff.mpr (eq_i res_at (Term.int_eval (1)) rfl), trivial⟩ ⟨hq.1, hq.2.1, hq.2.2.1, (hq.2.2.2.sift fun y hy => Or.inr (N y hy)).mono (by decide) (by decide)⟩⟩
theorem main_1_1 : Claimed_1_1 := comes_1 fun _ _ _ _ _ _ h hF => ⟨h.1, hF⟩
theorem main_1_2 : Claimed_1_2 := comes_1 fun _ _ _ _ _ _ h hF => ⟨h.2.1, hF⟩
end Jvm.Pilot.@@N@@
namespace Jvm.Pilot.@@N@@
open Jvm Jvm.ClassFile Sem Op Lib Jvm.Free Jvm.Stand Jvm.Pilot.@@N@@.Jvm.D
/-! MADE BY PROGRAM (witnessworld.py) out of the Statement's table words and the real class files: 18 classes; the members and pool entries that the words name. The judged class is class 1, her method 2. -/
namespace start1
open Jvm.ClassFile
def u (s : String) : CpInfo := .utf8 (stringToUtf16 s)
/-- a pool by its gaps: so many unusable entries, then the entry; so many at the end -/
def gap : Nat → List CpInfo → List CpInfo
  | 0, r => r
  | n + 1, r => .unusable :: gap n r
def poolList (es : List (Nat × CpInfo)) (last : Nat) : List CpInfo := es.foldr (fun e r => gap e.1 (e.2 :: r)) (gap last [])
def pool (es : List (Nat × CpInfo)) (last : Nat) : Array CpInfo := ⟨poolList es last⟩
def fileOf (pool : Array CpInfo) (this : Nat) (attrs : Array Attribute := #[]) (ms : Array MethodInfo := #[]) (fl : Nat := 33) (sup : Nat := 0) (ifs : Array Nat := #[]) (fds : Array FieldInfo := #[]) : ClassFile where
  minorVersion := 0
  majorVersion := 65
  constantPool := pool
  accessFlags := fl
  thisClass := this
  superClass := sup
  interfaces := ifs
  fields := fds
  methods := ms
  attributes := attrs
def plain (name : String) (sup : Option ClassId) : Class where
  name := name
  kind := .ordinary
  loader := none
  accessFlags := 33
  super := sup
  interfaces := #[]
  cf := none
  fields := #[]
  methods := #[]
  instanceTypes := #[]
  staticTypes := #[]
  resolved := #[]
  callSites := []
  init := .initialized
  statics := none
  mirror := none

def pool0 : Array CpInfo := pool [(5, u "<init>"), (0, u "()V"), (1, .class_ 10), (1, u "java/lang/Object")] 113

def k0c0 : Code := { maxStack := 0, maxLocals := 1, code := object_method_1_code, exceptionTable := #[], attributes := #[] }
def k0m0 : Method := { name := "<init>", desc := "()V", sig := { parameters := [], returnType := none }, accessFlags := 1, code := some k0c0 }
/-- java/lang/Object -/
def k0 : Class := { plain "java/lang/Object" none with
  accessFlags := 33
  interfaces := #[]
  cf := some (fileOf pool0 8 #[] #[{ accessFlags := 1, nameIndex := 5, descriptorIndex := 6, attributes := #[] }] 33 0 #[] #[])
  fields := #[]
  methods := #[k0m0]
  instanceTypes := #[]
  staticTypes := #[]
  resolved := Array.replicate 124 none
  statics := none }

def pool1 : Array CpInfo := pool [(2, .class_ 4), (0, .nameAndType 5 6), (0, u "java/lang/Object"), (0, u "<init>"), (0, u "()V"), (0, .integer 2147483647), (0, .fieldref 9 10), (0, .class_ 11), (0, .nameAndType 12 13), (0, u "com/example/postback/postback/PaymentStatus"), (0, u "PENDING"), (0, u "Lcom/example/postback/postback/PaymentStatus;"), (0, .fieldref 9 15), (0, .nameAndType 16 13), (0, u "CONFIRMING"), (0, .fieldref 9 18), (0, .nameAndType 19 13), (0, u "PAID"), (0, .fieldref 9 21), (0, .nameAndType 22 13), (0, u "MISMATCH"), (0, .fieldref 9 24), (0, .nameAndType 25 13), (0, u "EXPIRED"), (0, .fieldref 9 27), (0, .nameAndType 28 13), (0, u "FAILED"), (0, .fieldref 9 30), (0, .nameAndType 31 13), (0, u "AWAITING_APPROVAL"), (0, .fieldref 9 33), (0, .nameAndType 34 13), (0, u "REJECTED"), (0, .fieldref 9 36), (0, .nameAndType 37 13), (0, u "UNKNOWN"), (0, .methodref 39 40), (0, .class_ 41), (0, .nameAndType 42 43), (0, u "com/example/postback/postback/BuilderStatusPinLaw"), (0, u "pick"), (0, u "(I)Lcom/example/postback/postback/PaymentStatus;"), (0, .class_ 45), (0, u "com/example/postback/postback/Payment$Builder"), (0, .methodref 44 3), (0, .methodref 44 48), (0, .nameAndType 49 50), (0, u "status"), (0, u "(Lcom/example/postback/postback/PaymentStatus;)Lcom/example/postback/postback/Payment$Builder;"), (0, .methodref 44 52), (0, .nameAndType 53 54), (0, u "build"), (0, u "()Lcom/example/postback/postback/Payment;"), (0, .methodref 56 57), (0, .class_ 58), (0, .nameAndType 49 59), (0, u "com/example/postback/postback/Payment"), (0, u "()Lcom/example/postback/postback/PaymentStatus;"), (0, .methodref 56 61), (0, .nameAndType 62 63), (0, u "kind"), (0, u "()Lcom/example/postback/postback/PaymentKind;"), (0, .methodref 56 65), (0, .nameAndType 66 67), (0, u "gatewayStatus"), (0, u "()Ljava/lang/String;"), (3, u "law"), (0, u "(III)Z")] 4

def k1m0 : Method := { name := "<init>", desc := "()V", sig := { parameters := [], returnType := none }, accessFlags := 2, code := none }
def k1c1 : Code := { maxStack := 2, maxLocals := 2, code := method_2_code, exceptionTable := #[], attributes := #[] }
def k1m1 : Method := { name := "pick", desc := "(I)Lcom/example/postback/postback/PaymentStatus;", sig := { parameters := [.int], returnType := some (.object "com/example/postback/postback/PaymentStatus") }, accessFlags := 10, code := some k1c1 }
def k1c2 : Code := { maxStack := 2, maxLocals := 9, code := code, exceptionTable := #[], attributes := #[] }
def k1m2 : Method := { name := "law", desc := "(III)Z", sig := { parameters := [.int, .int, .int], returnType := some .boolean }, accessFlags := 9, code := some k1c2 }
/-- com/example/postback/postback/BuilderStatusPinLaw -/
def k1 : Class := { plain "com/example/postback/postback/BuilderStatusPinLaw" (some 0) with
  accessFlags := 49
  interfaces := #[]
  cf := some (fileOf pool1 39 #[] #[{ accessFlags := 2, nameIndex := 5, descriptorIndex := 6, attributes := #[] }, { accessFlags := 10, nameIndex := 42, descriptorIndex := 43, attributes := #[] }, { accessFlags := 9, nameIndex := 71, descriptorIndex := 72, attributes := #[] }] 49 2 #[] #[])
  fields := #[]
  methods := #[k1m0, k1m1, k1m2]
  instanceTypes := #[]
  staticTypes := #[]
  resolved := Array.replicate 77 none
  statics := none }

def pool2 : Array CpInfo := pool [(1, .class_ 2), (0, u "java/lang/constant/Constable"), (0, .class_ 4), (0, u "java/lang/Object")] 6

/-- java/lang/constant/Constable -/
def k2 : Class := { plain "java/lang/constant/Constable" (some 0) with
  accessFlags := 1537
  interfaces := #[]
  cf := some (fileOf pool2 1 #[] #[] 1537 3 #[] #[])
  fields := #[]
  methods := #[]
  instanceTypes := #[]
  staticTypes := #[]
  resolved := Array.replicate 11 none
  statics := none }

def pool3 : Array CpInfo := pool [(1, .class_ 2), (0, u "java/lang/Comparable"), (0, .class_ 4), (0, u "java/lang/Object")] 7

/-- java/lang/Comparable -/
def k3 : Class := { plain "java/lang/Comparable" (some 0) with
  accessFlags := 1537
  interfaces := #[]
  cf := some (fileOf pool3 1 #[] #[] 1537 3 #[] #[])
  fields := #[]
  methods := #[]
  instanceTypes := #[]
  staticTypes := #[]
  resolved := Array.replicate 12 none
  statics := none }

def pool4 : Array CpInfo := pool [(1, .class_ 2), (0, u "java/io/Serializable"), (0, .class_ 4), (0, u "java/lang/Object")] 2

/-- java/io/Serializable -/
def k4 : Class := { plain "java/io/Serializable" (some 0) with
  accessFlags := 1537
  interfaces := #[]
  cf := some (fileOf pool4 1 #[] #[] 1537 3 #[] #[])
  fields := #[]
  methods := #[]
  instanceTypes := #[]
  staticTypes := #[]
  resolved := Array.replicate 7 none
  statics := none }

def pool5 : Array CpInfo := pool [(2, .class_ 4), (1, u "java/lang/Enum"), (0, u "name"), (0, u "Ljava/lang/String;"), (2, u "ordinal"), (0, u "I"), (1, .class_ 14), (1, u "java/lang/Object"), (4, u "hash"), (86, .class_ 108), (1, u "java/lang/Enum$EnumDesc"), (2, .class_ 112), (0, u "java/lang/constant/Constable"), (0, .class_ 114), (0, u "java/lang/Comparable"), (0, .class_ 116), (0, u "java/io/Serializable")] 87

/-- java/lang/Enum -/
def k5 : Class := { plain "java/lang/Enum" (some 0) with
  accessFlags := 1057
  interfaces := #[2, 3, 4]
  cf := some (fileOf pool5 2 #[.nestMembers #[106]] #[] 1057 12 #[111, 113, 115] #[{ accessFlags := 18, nameIndex := 5, descriptorIndex := 6, attributes := #[] }, { accessFlags := 18, nameIndex := 9, descriptorIndex := 10, attributes := #[] }, { accessFlags := 2, nameIndex := 19, descriptorIndex := 10, attributes := #[] }])
  fields := #[{ name := "name", type := (.object "java/lang/String"), accessFlags := 18, slot := 0, constantValue := 0 }, { name := "ordinal", type := .int, accessFlags := 18, slot := 1, constantValue := 0 }, { name := "hash", type := .int, accessFlags := 2, slot := 2, constantValue := 0 }]
  methods := #[]
  instanceTypes := #[(.object "java/lang/String"), .int, .int]
  staticTypes := #[]
  resolved := Array.replicate 204 none
  statics := none }

def pool6 : Array CpInfo := pool [(1, .class_ 2), (0, u "com/example/postback/postback/PaymentStatus"), (2, u "PENDING"), (0, u "Lcom/example/postback/postback/PaymentStatus;"), (2, u "CONFIRMING"), (2, u "PAID"), (2, u "MISMATCH"), (2, u "EXPIRED"), (2, u "FAILED"), (2, u "AWAITING_APPROVAL"), (2, u "REJECTED"), (2, u "UNKNOWN"), (2, u "$VALUES"), (0, u "[Lcom/example/postback/postback/PaymentStatus;"), (6, .class_ 43), (1, u "java/lang/Enum"), (8, u "word"), (0, u "Ljava/lang/String;"), (2, u "isFinal"), (0, u "Z")] 48

/-- com/example/postback/postback/PaymentStatus -/
def k6 : Class := { plain "com/example/postback/postback/PaymentStatus" (some 5) with
  accessFlags := 16433
  interfaces := #[]
  cf := some (fileOf pool6 1 #[] #[] 16433 41 #[] #[{ accessFlags := 16409, nameIndex := 5, descriptorIndex := 6, attributes := #[] }, { accessFlags := 16409, nameIndex := 9, descriptorIndex := 6, attributes := #[] }, { accessFlags := 16409, nameIndex := 12, descriptorIndex := 6, attributes := #[] }, { accessFlags := 16409, nameIndex := 15, descriptorIndex := 6, attributes := #[] }, { accessFlags := 16409, nameIndex := 18, descriptorIndex := 6, attributes := #[] }, { accessFlags := 16409, nameIndex := 21, descriptorIndex := 6, attributes := #[] }, { accessFlags := 16409, nameIndex := 24, descriptorIndex := 6, attributes := #[] }, { accessFlags := 16409, nameIndex := 27, descriptorIndex := 6, attributes := #[] }, { accessFlags := 16409, nameIndex := 30, descriptorIndex := 6, attributes := #[] }, { accessFlags := 18, nameIndex := 52, descriptorIndex := 53, attributes := #[] }, { accessFlags := 18, nameIndex := 56, descriptorIndex := 57, attributes := #[] }, { accessFlags := 4122, nameIndex := 33, descriptorIndex := 34, attributes := #[] }])
  fields := #[{ name := "PENDING", type := (.object "com/example/postback/postback/PaymentStatus"), accessFlags := 16409, slot := 0, constantValue := 0 }, { name := "CONFIRMING", type := (.object "com/example/postback/postback/PaymentStatus"), accessFlags := 16409, slot := 1, constantValue := 0 }, { name := "PAID", type := (.object "com/example/postback/postback/PaymentStatus"), accessFlags := 16409, slot := 2, constantValue := 0 }, { name := "MISMATCH", type := (.object "com/example/postback/postback/PaymentStatus"), accessFlags := 16409, slot := 3, constantValue := 0 }, { name := "EXPIRED", type := (.object "com/example/postback/postback/PaymentStatus"), accessFlags := 16409, slot := 4, constantValue := 0 }, { name := "FAILED", type := (.object "com/example/postback/postback/PaymentStatus"), accessFlags := 16409, slot := 5, constantValue := 0 }, { name := "AWAITING_APPROVAL", type := (.object "com/example/postback/postback/PaymentStatus"), accessFlags := 16409, slot := 6, constantValue := 0 }, { name := "REJECTED", type := (.object "com/example/postback/postback/PaymentStatus"), accessFlags := 16409, slot := 7, constantValue := 0 }, { name := "UNKNOWN", type := (.object "com/example/postback/postback/PaymentStatus"), accessFlags := 16409, slot := 8, constantValue := 0 }, { name := "word", type := (.object "java/lang/String"), accessFlags := 18, slot := 3, constantValue := 0 }, { name := "isFinal", type := .boolean, accessFlags := 18, slot := 4, constantValue := 0 }, { name := "$VALUES", type := (.array (.object "com/example/postback/postback/PaymentStatus")), accessFlags := 4122, slot := 9, constantValue := 0 }]
  methods := #[]
  instanceTypes := #[(.object "java/lang/String"), .int, .int, (.object "java/lang/String"), .boolean]
  staticTypes := #[(.object "com/example/postback/postback/PaymentStatus"), (.object "com/example/postback/postback/PaymentStatus"), (.object "com/example/postback/postback/PaymentStatus"), (.object "com/example/postback/postback/PaymentStatus"), (.object "com/example/postback/postback/PaymentStatus"), (.object "com/example/postback/postback/PaymentStatus"), (.object "com/example/postback/postback/PaymentStatus"), (.object "com/example/postback/postback/PaymentStatus"), (.object "com/example/postback/postback/PaymentStatus"), (.array (.object "com/example/postback/postback/PaymentStatus"))]
  resolved := Array.replicate 106 none
  statics := some 0 }

def pool7 : Array CpInfo := pool [(1, .methodref 2 3), (0, .class_ 4), (0, .nameAndType 5 6), (0, u "java/lang/Object"), (0, u "<init>"), (0, u "()V"), (0, .fieldref 8 9), (0, .class_ 10), (0, .nameAndType 11 12), (0, u "com/example/postback/postback/PaymentStatus"), (0, u "UNKNOWN"), (0, u "Lcom/example/postback/postback/PaymentStatus;"), (0, .fieldref 14 15), (0, .class_ 16), (0, .nameAndType 17 12), (0, u "com/example/postback/postback/Payment$Builder"), (0, u "status"), (2, u "kind"), (0, u "Lcom/example/postback/postback/PaymentKind;"), (6, u "orderId"), (0, u "Ljava/lang/String;"), (2, u "merchantOrderId"), (0, .string 17), (0, .methodref 35 36), (0, .class_ 37), (0, .nameAndType 38 39), (0, u "java/util/Objects"), (0, u "requireNonNull"), (0, u "(Ljava/lang/Object;Ljava/lang/String;)Ljava/lang/Object;"), (2, u "gatewayStatus"), (1, .class_ 46), (1, u "com/example/postback/postback/Payment"), (16, u "amount"), (2, u "currency"), (2, u "chain"), (2, u "txHash"), (11, u "occurredAt"), (0, u "Ljava/lang/Long;"), (0, .methodref 44 87), (0, .nameAndType 5 88), (0, u "(Lcom/example/postback/postback/Payment$Builder;)V"), (9, u "(Lcom/example/postback/postback/PaymentStatus;)Lcom/example/postback/postback/Payment$Builder;"), (1, u "build"), (0, u "()Lcom/example/postback/postback/Payment;")] 5

def k7c0 : Code := { maxStack := 2, maxLocals := 1, code := prog_6_method_1_code, exceptionTable := #[], attributes := #[] }
def k7m0 : Method := { name := "<init>", desc := "()V", sig := { parameters := [], returnType := none }, accessFlags := 1, code := some k7c0 }
def k7c1 : Code := { maxStack := 3, maxLocals := 2, code := prog_6_method_5_code, exceptionTable := #[], attributes := #[] }
def k7m1 : Method := { name := "status", desc := "(Lcom/example/postback/postback/PaymentStatus;)Lcom/example/postback/postback/Payment$Builder;", sig := { parameters := [(.object "com/example/postback/postback/PaymentStatus")], returnType := some (.object "com/example/postback/postback/Payment$Builder") }, accessFlags := 1, code := some k7c1 }
def k7c2 : Code := { maxStack := 3, maxLocals := 1, code := prog_6_method_12_code, exceptionTable := #[], attributes := #[] }
def k7m2 : Method := { name := "build", desc := "()Lcom/example/postback/postback/Payment;", sig := { parameters := [], returnType := some (.object "com/example/postback/postback/Payment") }, accessFlags := 1, code := some k7c2 }
/-- com/example/postback/postback/Payment$Builder -/
def k7 : Class := { plain "com/example/postback/postback/Payment$Builder" (some 0) with
  accessFlags := 49
  interfaces := #[]
  cf := some (fileOf pool7 14 #[.nestHost 44] #[{ accessFlags := 1, nameIndex := 5, descriptorIndex := 6, attributes := #[] }, { accessFlags := 1, nameIndex := 17, descriptorIndex := 98, attributes := #[] }, { accessFlags := 1, nameIndex := 100, descriptorIndex := 101, attributes := #[] }] 49 2 #[] #[{ accessFlags := 2, nameIndex := 20, descriptorIndex := 21, attributes := #[] }, { accessFlags := 2, nameIndex := 28, descriptorIndex := 29, attributes := #[] }, { accessFlags := 2, nameIndex := 32, descriptorIndex := 29, attributes := #[] }, { accessFlags := 2, nameIndex := 17, descriptorIndex := 12, attributes := #[] }, { accessFlags := 2, nameIndex := 42, descriptorIndex := 29, attributes := #[] }, { accessFlags := 2, nameIndex := 63, descriptorIndex := 29, attributes := #[] }, { accessFlags := 2, nameIndex := 66, descriptorIndex := 29, attributes := #[] }, { accessFlags := 2, nameIndex := 69, descriptorIndex := 29, attributes := #[] }, { accessFlags := 2, nameIndex := 72, descriptorIndex := 29, attributes := #[] }, { accessFlags := 2, nameIndex := 84, descriptorIndex := 85, attributes := #[] }])
  fields := #[{ name := "kind", type := (.object "com/example/postback/postback/PaymentKind"), accessFlags := 2, slot := 0, constantValue := 0 }, { name := "orderId", type := (.object "java/lang/String"), accessFlags := 2, slot := 1, constantValue := 0 }, { name := "merchantOrderId", type := (.object "java/lang/String"), accessFlags := 2, slot := 2, constantValue := 0 }, { name := "status", type := (.object "com/example/postback/postback/PaymentStatus"), accessFlags := 2, slot := 3, constantValue := 0 }, { name := "gatewayStatus", type := (.object "java/lang/String"), accessFlags := 2, slot := 4, constantValue := 0 }, { name := "amount", type := (.object "java/lang/String"), accessFlags := 2, slot := 5, constantValue := 0 }, { name := "currency", type := (.object "java/lang/String"), accessFlags := 2, slot := 6, constantValue := 0 }, { name := "chain", type := (.object "java/lang/String"), accessFlags := 2, slot := 7, constantValue := 0 }, { name := "txHash", type := (.object "java/lang/String"), accessFlags := 2, slot := 8, constantValue := 0 }, { name := "occurredAt", type := (.object "java/lang/Long"), accessFlags := 2, slot := 9, constantValue := 0 }]
  methods := #[k7m0, k7m1, k7m2]
  instanceTypes := #[(.object "com/example/postback/postback/PaymentKind"), (.object "java/lang/String"), (.object "java/lang/String"), (.object "com/example/postback/postback/PaymentStatus"), (.object "java/lang/String"), (.object "java/lang/String"), (.object "java/lang/String"), (.object "java/lang/String"), (.object "java/lang/String"), (.object "java/lang/Long")]
  staticTypes := #[]
  resolved := Array.replicate 107 none
  statics := none }

def pool8 : Array CpInfo := pool [(2, .class_ 4), (1, u "java/lang/CharSequence"), (42, .class_ 48), (0, u "java/lang/CharSequence$1CodePointIterator"), (10, .class_ 60), (0, u "java/lang/CharSequence$1CharIterator"), (5, .class_ 67), (0, u "java/lang/Object")] 63

/-- java/lang/CharSequence -/
def k8 : Class := { plain "java/lang/CharSequence" (some 0) with
  accessFlags := 1537
  interfaces := #[]
  cf := some (fileOf pool8 2 #[.nestMembers #[47, 59]] #[] 1537 66 #[] #[])
  fields := #[]
  methods := #[]
  instanceTypes := #[]
  staticTypes := #[]
  resolved := Array.replicate 131 none
  statics := none }

def pool9 : Array CpInfo := pool [(1, .class_ 2), (0, u "java/lang/constant/ConstantDesc"), (0, .class_ 4), (0, u "java/lang/Object")] 32

/-- java/lang/constant/ConstantDesc -/
def k9 : Class := { plain "java/lang/constant/ConstantDesc" (some 0) with
  accessFlags := 1537
  interfaces := #[]
  cf := some (fileOf pool9 1 #[] #[] 1537 3 #[] #[])
  fields := #[]
  methods := #[]
  instanceTypes := #[]
  staticTypes := #[]
  resolved := Array.replicate 37 none
  statics := none }

def pool10 : Array CpInfo := pool [(2, .class_ 4), (1, u "java/lang/Object"), (0, u "<init>"), (0, u "()V"), (3, .class_ 12), (1, u "java/lang/String"), (0, u "value"), (0, u "[B"), (2, u "coder"), (0, u "B"), (2, u "hash"), (0, u "I"), (2, u "hashIsZero"), (0, u "Z"), (13, u "COMPACT_STRINGS"), (534, .class_ 576), (0, u "java/lang/CharSequence"), (22, u "CASE_INSENSITIVE_ORDER"), (0, u "Ljava/util/Comparator;"), (500, u "serialPersistentFields"), (0, u "[Ljava/io/ObjectStreamField;"), (0, .class_ 1104), (0, u "java/lang/String$CaseInsensitiveComparator"), (1, .class_ 1107), (0, u "java/io/Serializable"), (0, .class_ 1109), (0, u "java/lang/Comparable"), (0, .class_ 1111), (0, u "java/lang/constant/Constable"), (0, .class_ 1113), (0, u "java/lang/constant/ConstantDesc"), (2, u "serialVersionUID"), (0, u "J"), (3, u "REPL"), (0, u "C"), (2, u "LATIN1"), (1, u "UTF16")] 323

def k10m0 : Method := { name := "<init>", desc := "()V", sig := { parameters := [], returnType := none }, accessFlags := 1, code := none }
/-- java/lang/String -/
def k10 : Class := { plain "java/lang/String" (some 0) with
  accessFlags := 49
  interfaces := #[4, 3, 8, 2, 9]
  cf := some (fileOf pool10 10 #[.nestMembers #[1103]] #[{ accessFlags := 1, nameIndex := 5, descriptorIndex := 6, attributes := #[] }] 49 2 #[1106, 1108, 575, 1110, 1112] #[{ accessFlags := 18, nameIndex := 13, descriptorIndex := 14, attributes := #[] }, { accessFlags := 18, nameIndex := 17, descriptorIndex := 18, attributes := #[] }, { accessFlags := 2, nameIndex := 21, descriptorIndex := 22, attributes := #[] }, { accessFlags := 2, nameIndex := 25, descriptorIndex := 26, attributes := #[] }, { accessFlags := 26, nameIndex := 1116, descriptorIndex := 1117, attributes := #[] }, { accessFlags := 24, nameIndex := 40, descriptorIndex := 26, attributes := #[] }, { accessFlags := 26, nameIndex := 1101, descriptorIndex := 1102, attributes := #[] }, { accessFlags := 26, nameIndex := 1121, descriptorIndex := 1122, attributes := #[] }, { accessFlags := 25, nameIndex := 599, descriptorIndex := 600, attributes := #[] }, { accessFlags := 24, nameIndex := 1125, descriptorIndex := 18, attributes := #[] }, { accessFlags := 24, nameIndex := 1127, descriptorIndex := 18, attributes := #[] }])
  fields := #[{ name := "value", type := (.array .byte), accessFlags := 18, slot := 0, constantValue := 0 }, { name := "coder", type := .byte, accessFlags := 18, slot := 1, constantValue := 0 }, { name := "hash", type := .int, accessFlags := 2, slot := 2, constantValue := 0 }, { name := "hashIsZero", type := .boolean, accessFlags := 2, slot := 3, constantValue := 0 }, { name := "serialVersionUID", type := .long, accessFlags := 26, slot := 0, constantValue := 0 }, { name := "COMPACT_STRINGS", type := .boolean, accessFlags := 24, slot := 1, constantValue := 0 }, { name := "serialPersistentFields", type := (.array (.object "java/io/ObjectStreamField")), accessFlags := 26, slot := 2, constantValue := 0 }, { name := "REPL", type := .char, accessFlags := 26, slot := 3, constantValue := 0 }, { name := "CASE_INSENSITIVE_ORDER", type := (.object "java/util/Comparator"), accessFlags := 25, slot := 4, constantValue := 0 }, { name := "LATIN1", type := .byte, accessFlags := 24, slot := 5, constantValue := 0 }, { name := "UTF16", type := .byte, accessFlags := 24, slot := 6, constantValue := 0 }]
  methods := #[k10m0]
  instanceTypes := #[(.array .byte), .byte, .int, .boolean]
  staticTypes := #[.long, .boolean, (.array (.object "java/io/ObjectStreamField")), .char, (.object "java/util/Comparator"), .byte, .byte]
  resolved := Array.replicate 1451 none
  statics := none }

def pool11 : Array CpInfo := pool [(2, .class_ 4), (1, u "java/lang/Object"), (0, u "<init>"), (0, u "()V"), (35, .class_ 44), (1, u "java/util/Objects"), (0, u "requireNonNull"), (48, u "(Ljava/lang/Object;Ljava/lang/String;)Ljava/lang/Object;")] 89

def k11m0 : Method := { name := "<init>", desc := "()V", sig := { parameters := [], returnType := none }, accessFlags := 2, code := none }
def k11c1 : Code := { maxStack := 3, maxLocals := 2, code := jdk_31_method_11_code, exceptionTable := #[], attributes := #[] }
def k11m1 : Method := { name := "requireNonNull", desc := "(Ljava/lang/Object;Ljava/lang/String;)Ljava/lang/Object;", sig := { parameters := [(.object "java/lang/Object"), (.object "java/lang/String")], returnType := some (.object "java/lang/Object") }, accessFlags := 9, code := some k11c1 }
/-- java/util/Objects -/
def k11 : Class := { plain "java/util/Objects" (some 0) with
  accessFlags := 49
  interfaces := #[]
  cf := some (fileOf pool11 42 #[] #[{ accessFlags := 2, nameIndex := 5, descriptorIndex := 6, attributes := #[] }, { accessFlags := 9, nameIndex := 45, descriptorIndex := 94, attributes := #[] }] 49 2 #[] #[])
  fields := #[]
  methods := #[k11m0, k11m1]
  instanceTypes := #[]
  staticTypes := #[]
  resolved := Array.replicate 184 none
  statics := none }

def pool12 : Array CpInfo := pool [(1, .methodref 2 3), (0, .class_ 4), (0, .nameAndType 5 6), (0, u "java/lang/Object"), (0, u "<init>"), (0, u "()V"), (0, .fieldref 8 9), (0, .class_ 10), (0, .nameAndType 11 12), (0, u "com/example/postback/postback/Payment$Builder"), (0, u "kind"), (0, u "Lcom/example/postback/postback/PaymentKind;"), (0, .fieldref 14 9), (0, .class_ 15), (0, u "com/example/postback/postback/Payment"), (0, .fieldref 8 17), (0, .nameAndType 18 19), (0, u "orderId"), (0, u "Ljava/lang/String;"), (0, .fieldref 14 17), (0, .fieldref 8 22), (0, .nameAndType 23 19), (0, u "merchantOrderId"), (0, .fieldref 14 22), (0, .fieldref 8 26), (0, .nameAndType 27 28), (0, u "status"), (0, u "Lcom/example/postback/postback/PaymentStatus;"), (0, .fieldref 14 26), (0, .fieldref 8 31), (0, .nameAndType 32 19), (0, u "gatewayStatus"), (0, .fieldref 14 31), (0, .fieldref 8 35), (0, .nameAndType 36 19), (0, u "amount"), (0, .fieldref 14 35), (0, .fieldref 8 39), (0, .nameAndType 40 19), (0, u "currency"), (0, .fieldref 14 39), (0, .fieldref 8 43), (0, .nameAndType 44 19), (0, u "chain"), (0, .fieldref 14 43), (0, .fieldref 8 47), (0, .nameAndType 48 19), (0, u "txHash"), (0, .fieldref 14 47), (0, .fieldref 8 51), (0, .nameAndType 52 53), (0, u "occurredAt"), (0, u "Ljava/lang/Long;"), (0, .fieldref 14 51), (10, u "DECIMAL"), (0, u "Ljava/util/regex/Pattern;"), (4, u "MILLIS"), (0, u "(Lcom/example/postback/postback/Payment$Builder;)V"), (2, u "()Lcom/example/postback/postback/PaymentKind;"), (0, u "()Ljava/lang/String;"), (0, u "()Lcom/example/postback/postback/PaymentStatus;")] 7

def k12c0 : Code := { maxStack := 2, maxLocals := 2, code := prog_5_method_1_code, exceptionTable := #[], attributes := #[] }
def k12m0 : Method := { name := "<init>", desc := "(Lcom/example/postback/postback/Payment$Builder;)V", sig := { parameters := [(.object "com/example/postback/postback/Payment$Builder")], returnType := none }, accessFlags := 2, code := some k12c0 }
def k12c1 : Code := { maxStack := 1, maxLocals := 1, code := prog_5_method_2_code, exceptionTable := #[], attributes := #[] }
def k12m1 : Method := { name := "kind", desc := "()Lcom/example/postback/postback/PaymentKind;", sig := { parameters := [], returnType := some (.object "com/example/postback/postback/PaymentKind") }, accessFlags := 1, code := some k12c1 }
def k12c2 : Code := { maxStack := 1, maxLocals := 1, code := prog_5_method_5_code, exceptionTable := #[], attributes := #[] }
def k12m2 : Method := { name := "status", desc := "()Lcom/example/postback/postback/PaymentStatus;", sig := { parameters := [], returnType := some (.object "com/example/postback/postback/PaymentStatus") }, accessFlags := 1, code := some k12c2 }
def k12c3 : Code := { maxStack := 1, maxLocals := 1, code := prog_5_method_6_code, exceptionTable := #[], attributes := #[] }
def k12m3 : Method := { name := "gatewayStatus", desc := "()Ljava/lang/String;", sig := { parameters := [], returnType := some (.object "java/lang/String") }, accessFlags := 1, code := some k12c3 }
/-- com/example/postback/postback/Payment -/
def k12 : Class := { plain "com/example/postback/postback/Payment" (some 0) with
  accessFlags := 49
  interfaces := #[]
  cf := some (fileOf pool12 14 #[.nestMembers #[8]] #[{ accessFlags := 2, nameIndex := 5, descriptorIndex := 72, attributes := #[] }, { accessFlags := 1, nameIndex := 11, descriptorIndex := 75, attributes := #[] }, { accessFlags := 1, nameIndex := 27, descriptorIndex := 77, attributes := #[] }, { accessFlags := 1, nameIndex := 32, descriptorIndex := 76, attributes := #[] }] 49 2 #[] #[{ accessFlags := 26, nameIndex := 65, descriptorIndex := 66, attributes := #[] }, { accessFlags := 26, nameIndex := 71, descriptorIndex := 66, attributes := #[] }, { accessFlags := 18, nameIndex := 11, descriptorIndex := 12, attributes := #[] }, { accessFlags := 18, nameIndex := 18, descriptorIndex := 19, attributes := #[] }, { accessFlags := 18, nameIndex := 23, descriptorIndex := 19, attributes := #[] }, { accessFlags := 18, nameIndex := 27, descriptorIndex := 28, attributes := #[] }, { accessFlags := 18, nameIndex := 32, descriptorIndex := 19, attributes := #[] }, { accessFlags := 18, nameIndex := 36, descriptorIndex := 19, attributes := #[] }, { accessFlags := 18, nameIndex := 40, descriptorIndex := 19, attributes := #[] }, { accessFlags := 18, nameIndex := 44, descriptorIndex := 19, attributes := #[] }, { accessFlags := 18, nameIndex := 48, descriptorIndex := 19, attributes := #[] }, { accessFlags := 18, nameIndex := 52, descriptorIndex := 53, attributes := #[] }])
  fields := #[{ name := "DECIMAL", type := (.object "java/util/regex/Pattern"), accessFlags := 26, slot := 0, constantValue := 0 }, { name := "MILLIS", type := (.object "java/util/regex/Pattern"), accessFlags := 26, slot := 1, constantValue := 0 }, { name := "kind", type := (.object "com/example/postback/postback/PaymentKind"), accessFlags := 18, slot := 0, constantValue := 0 }, { name := "orderId", type := (.object "java/lang/String"), accessFlags := 18, slot := 1, constantValue := 0 }, { name := "merchantOrderId", type := (.object "java/lang/String"), accessFlags := 18, slot := 2, constantValue := 0 }, { name := "status", type := (.object "com/example/postback/postback/PaymentStatus"), accessFlags := 18, slot := 3, constantValue := 0 }, { name := "gatewayStatus", type := (.object "java/lang/String"), accessFlags := 18, slot := 4, constantValue := 0 }, { name := "amount", type := (.object "java/lang/String"), accessFlags := 18, slot := 5, constantValue := 0 }, { name := "currency", type := (.object "java/lang/String"), accessFlags := 18, slot := 6, constantValue := 0 }, { name := "chain", type := (.object "java/lang/String"), accessFlags := 18, slot := 7, constantValue := 0 }, { name := "txHash", type := (.object "java/lang/String"), accessFlags := 18, slot := 8, constantValue := 0 }, { name := "occurredAt", type := (.object "java/lang/Long"), accessFlags := 18, slot := 9, constantValue := 0 }]
  methods := #[k12m0, k12m1, k12m2, k12m3]
  instanceTypes := #[(.object "com/example/postback/postback/PaymentKind"), (.object "java/lang/String"), (.object "java/lang/String"), (.object "com/example/postback/postback/PaymentStatus"), (.object "java/lang/String"), (.object "java/lang/String"), (.object "java/lang/String"), (.object "java/lang/String"), (.object "java/lang/String"), (.object "java/lang/Long")]
  staticTypes := #[(.object "java/util/regex/Pattern"), (.object "java/util/regex/Pattern")]
  resolved := ⟨List.replicate 7 none ++ [some (.field 7 0)] ++ List.replicate 8 none ++ [some (.field 7 1)] ++ List.replicate 4 none ++ [some (.field 7 2)] ++ List.replicate 3 none ++ [some (.field 7 3)] ++ List.replicate 4 none ++ [some (.field 7 4)] ++ List.replicate 3 none ++ [some (.field 7 5)] ++ List.replicate 3 none ++ [some (.field 7 6)] ++ List.replicate 3 none ++ [some (.field 7 7)] ++ List.replicate 3 none ++ [some (.field 7 8)] ++ List.replicate 3 none ++ [some (.field 7 9)] ++ List.replicate 34 none⟩
  statics := none }

def pool13 : Array CpInfo := pool [(1, u "java/lang/Cloneable"), (0, .class_ 1), (0, u "java/lang/Object"), (0, .class_ 3)] 3

/-- java/lang/Cloneable -/
def k13 : Class := { plain "java/lang/Cloneable" (some 0) with
  accessFlags := 1537
  interfaces := #[]
  cf := some (fileOf pool13 2 #[] #[] 1537 4 #[] #[])
  fields := #[]
  methods := #[]
  instanceTypes := #[]
  staticTypes := #[]
  resolved := Array.replicate 8 none
  statics := none }

/-- the primitive byte -/
def k14 : Class := { plain "byte" none with kind := .primitive 'B', accessFlags := 0x411 }
/-- [B -/
def k15 : Class := { plain "[B" (some 0) with kind := .array 14 .byte, interfaces := #[13, 4], accessFlags := 1041 }

/-- the primitive int -/
def k16 : Class := { plain "int" none with kind := .primitive 'I', accessFlags := 0x411 }
/-- [I -/
def k17 : Class := { plain "[I" (some 0) with kind := .array 16 .int, interfaces := #[13, 4], accessFlags := 1041 }

def heap : Heap := #[{ cls := 6, slots := #[.ref 1, .ref 4, .ref 5, .ref 2, .ref 9, .ref 8, .ref 7, .ref 6, .ref 3, .null], vm := .statics 6 },
  { cls := 6, slots := #[.null, .int 0, .int 0, .null, .int 0], vm := .none },
  { cls := 6, slots := #[.null, .int 0, .int 0, .null, .int 0], vm := .none },
  { cls := 6, slots := #[.null, .int 0, .int 0, .null, .int 0], vm := .none },
  { cls := 6, slots := #[.null, .int 0, .int 0, .null, .int 0], vm := .none },
  { cls := 6, slots := #[.null, .int 0, .int 0, .null, .int 0], vm := .none },
  { cls := 6, slots := #[.null, .int 0, .int 0, .null, .int 0], vm := .none },
  { cls := 6, slots := #[.null, .int 0, .int 0, .null, .int 0], vm := .none },
  { cls := 6, slots := #[.null, .int 0, .int 0, .null, .int 0], vm := .none },
  { cls := 6, slots := #[.null, .int 0, .int 0, .null, .int 0], vm := .none }]
def classes : Array Class := #[k0, k1, k2, k3, k4, k5, k6, k7, k8, k9, k10, k11, k12, k13, k14, k15, k16, k17]
def interned : List (Array UInt16 × Addr) := []
def slotsUsed : Nat := 55
def theMethod : MethodId := ⟨1, 2⟩
def args0 : Array Value := #[.int 5, .int 5, .int 5]
def aboutOver (below : List Frame) : State where
  vm := { classes := classes, interned := interned.toArray }
  heap := heap
  slotsUsed := slotsUsed
  threads := #[{ frames := .invoking theMethod args0 :: below }]
def below0 : List Frame := [.native { method := ⟨0, 0⟩, args := #[] }]
def about1 : State := aboutOver below0
def p0 : Program := .bare "" "" ""
def e0 : Env := launch0.env 0 0 0
theorem w_frames : about1.frames = Frame.invoking theMethod args0 :: below0 := rfl
set_option maxRecDepth 65536 in
theorem w_args : argsFit about1.vm theMethod args0 = true := by decide +kernel
set_option maxRecDepth 65536 in
theorem w_heap : heapFits about1 = true := by decide +kernel
set_option maxRecDepth 65536 in
theorem w_runnable : about1.curStatus? = some .runnable := by decide +kernel
set_option maxRecDepth 65536 in
theorem w_alone : about1.alone = true := by decide +kernel
set_option maxRecDepth 65536 in
theorem w_named : about1.methodNamed? x = some theMethod := by decide +kernel
set_option maxRecDepth 65536 in
theorem w_hears : about1.hears theMethod below0 = true := by decide +kernel
set_option maxRecDepth 65536 in
theorem w_ripe : about1.ripe theMethod args0 below0 = true := by decide +kernel
theorem w_running : about1.status = .running := rfl
set_option maxRecDepth 65536 in
theorem w_room : about1.hasRoom e0.platform room_1 = true :=
  launch0.hasRoom_least _ room_1 (by decide +kernel) (by decide +kernel) (by decide +kernel) (by decide +kernel) (by decide +kernel) (by decide +kernel)
theorem allAtoms_all (ts : List Jvm.Cond) (a : Array Jvm.Value) (st : Jvm.State) : (allAtoms ts).before a st = ts.all (fun c => c.before a st) := by
  induction ts with
  | nil => rfl
  | cons c t ih =>
    show (Jvm.Cond.and c (allAtoms t)).before a st = _
    rw [Jvm.Cond.before_and, ih, List.all_cons]
def words1 : List Jvm.Cond := Jvm.Cond.code x code maxLocals ret :: tables_1
/-- a 'code' word, met by the world's own term for the bytes: nothing is compared byte by byte -/
theorem code_word {y : MethodName} {bytes : ByteArray} {mx : Nat} {rt : Option FieldType} {a : Array Value} {s : State} {m : MethodId} {meth : Method} {c : Code} (h1 : s.methodNamed? y = some m) (h2 : s.vm.method? m = some meth) (h3 : meth.code = some c) (h4 : c.code = bytes)
    (h5 : (c.maxLocals == mx && c.exceptionTable.isEmpty && decide (c.maxStack ≤ mostOperands) && decide (meth.sig.returnType = rt) && !meth.locks && decide (parseMethodDescriptor y.desc = some meth.sig)) = true) : (Jvm.Cond.code y bytes mx rt).before a s = true := by
  simp only [Bool.and_eq_true, beq_iff_eq, Bool.not_eq_true', decide_eq_true_eq] at h5
  obtain ⟨⟨⟨⟨⟨g1, g2⟩, g3⟩, g4⟩, g5⟩, g6⟩ := h5
  simp [Cond.before, Cond.holds, Cond.value, h1, h2, h3, h4, g1, g2, g3, g4, g5, g6]
def isCode : Jvm.Cond → Bool
  | .code _ _ _ _ => true
  | _ => false
theorem all_split {L : List Jvm.Cond} {P : Jvm.Cond → Bool} (h1 : L.all (fun c => isCode c || P c) = true) (h2 : ∀ c ∈ L.filter isCode, P c = true) : L.all P = true := by
  refine List.all_eq_true.mpr fun c hc => ?_
  have h := List.all_eq_true.mp h1 c hc
  rcases Bool.eq_false_or_eq_true (isCode c) with hi | hi
  · exact h2 c (List.mem_filter.mpr ⟨hc, hi⟩)
  · simpa [hi] using h
set_option maxRecDepth 65536 in
theorem w_c0 : (Jvm.Cond.code x code maxLocals ret).before args0 about1 = true := code_word (m := ⟨1, 2⟩) (meth := k1m2) (c := k1c2) (by decide +kernel) rfl rfl rfl (by decide +kernel)
set_option maxRecDepth 65536 in
theorem w_c1 : (Jvm.Cond.code ({ cls := "com/example/postback/postback/BuilderStatusPinLaw", name := "pick", desc := "(I)Lcom/example/postback/postback/PaymentStatus;" } : Jvm.MethodName) method_2_code (2 : Nat) (Option.some (Jvm.ClassFile.FieldType.object "com/example/postback/postback/PaymentStatus"))).before args0 about1 = true := code_word (m := ⟨1, 1⟩) (meth := k1m1) (c := k1c1) (by decide +kernel) rfl rfl rfl (by decide +kernel)
set_option maxRecDepth 65536 in
theorem w_c2 : (Jvm.Cond.code ({ cls := "com/example/postback/postback/Payment$Builder", name := "<init>", desc := "()V" } : Jvm.MethodName) prog_6_method_1_code (1 : Nat) (Option.none : Option Jvm.ClassFile.FieldType)).before args0 about1 = true := code_word (m := ⟨7, 0⟩) (meth := k7m0) (c := k7c0) (by decide +kernel) rfl rfl rfl (by decide +kernel)
set_option maxRecDepth 65536 in
theorem w_c3 : (Jvm.Cond.code ({ cls := "java/lang/Object", name := "<init>", desc := "()V" } : Jvm.MethodName) object_method_1_code (1 : Nat) (Option.none : Option Jvm.ClassFile.FieldType)).before args0 about1 = true := code_word (m := ⟨0, 0⟩) (meth := k0m0) (c := k0c0) (by decide +kernel) rfl rfl rfl (by decide +kernel)
set_option maxRecDepth 65536 in
theorem w_c4 : (Jvm.Cond.code ({ cls := "com/example/postback/postback/Payment$Builder", name := "status", desc := "(Lcom/example/postback/postback/PaymentStatus;)Lcom/example/postback/postback/Payment$Builder;" } : Jvm.MethodName) prog_6_method_5_code (2 : Nat) (Option.some (Jvm.ClassFile.FieldType.object "com/example/postback/postback/Payment$Builder"))).before args0 about1 = true := code_word (m := ⟨7, 1⟩) (meth := k7m1) (c := k7c1) (by decide +kernel) rfl rfl rfl (by decide +kernel)
set_option maxRecDepth 65536 in
theorem w_c5 : (Jvm.Cond.code ({ cls := "java/util/Objects", name := "requireNonNull", desc := "(Ljava/lang/Object;Ljava/lang/String;)Ljava/lang/Object;" } : Jvm.MethodName) jdk_31_method_11_code (2 : Nat) (Option.some (Jvm.ClassFile.FieldType.object "java/lang/Object"))).before args0 about1 = true := code_word (m := ⟨11, 1⟩) (meth := k11m1) (c := k11c1) (by decide +kernel) rfl rfl rfl (by decide +kernel)
set_option maxRecDepth 65536 in
theorem w_c6 : (Jvm.Cond.code ({ cls := "com/example/postback/postback/Payment$Builder", name := "build", desc := "()Lcom/example/postback/postback/Payment;" } : Jvm.MethodName) prog_6_method_12_code (1 : Nat) (Option.some (Jvm.ClassFile.FieldType.object "com/example/postback/postback/Payment"))).before args0 about1 = true := code_word (m := ⟨7, 2⟩) (meth := k7m2) (c := k7c2) (by decide +kernel) rfl rfl rfl (by decide +kernel)
set_option maxRecDepth 65536 in
theorem w_c7 : (Jvm.Cond.code ({ cls := "com/example/postback/postback/Payment", name := "<init>", desc := "(Lcom/example/postback/postback/Payment$Builder;)V" } : Jvm.MethodName) prog_5_method_1_code (2 : Nat) (Option.none : Option Jvm.ClassFile.FieldType)).before args0 about1 = true := code_word (m := ⟨12, 0⟩) (meth := k12m0) (c := k12c0) (by decide +kernel) rfl rfl rfl (by decide +kernel)
set_option maxRecDepth 65536 in
theorem w_c8 : (Jvm.Cond.code ({ cls := "com/example/postback/postback/Payment", name := "status", desc := "()Lcom/example/postback/postback/PaymentStatus;" } : Jvm.MethodName) prog_5_method_5_code (1 : Nat) (Option.some (Jvm.ClassFile.FieldType.object "com/example/postback/postback/PaymentStatus"))).before args0 about1 = true := code_word (m := ⟨12, 2⟩) (meth := k12m2) (c := k12c2) (by decide +kernel) rfl rfl rfl (by decide +kernel)
set_option maxRecDepth 65536 in
theorem w_c9 : (Jvm.Cond.code ({ cls := "com/example/postback/postback/Payment", name := "kind", desc := "()Lcom/example/postback/postback/PaymentKind;" } : Jvm.MethodName) prog_5_method_2_code (1 : Nat) (Option.some (Jvm.ClassFile.FieldType.object "com/example/postback/postback/PaymentKind"))).before args0 about1 = true := code_word (m := ⟨12, 1⟩) (meth := k12m1) (c := k12c1) (by decide +kernel) rfl rfl rfl (by decide +kernel)
set_option maxRecDepth 65536 in
theorem w_c10 : (Jvm.Cond.code ({ cls := "com/example/postback/postback/Payment", name := "gatewayStatus", desc := "()Ljava/lang/String;" } : Jvm.MethodName) prog_5_method_6_code (1 : Nat) (Option.some (Jvm.ClassFile.FieldType.object "java/lang/String"))).before args0 about1 = true := code_word (m := ⟨12, 3⟩) (meth := k12m3) (c := k12c3) (by decide +kernel) rfl rfl rfl (by decide +kernel)
def codes1 : List Jvm.Cond := [Jvm.Cond.code x code maxLocals ret, Jvm.Cond.code ({ cls := "com/example/postback/postback/BuilderStatusPinLaw", name := "pick", desc := "(I)Lcom/example/postback/postback/PaymentStatus;" } : Jvm.MethodName) method_2_code (2 : Nat) (Option.some (Jvm.ClassFile.FieldType.object "com/example/postback/postback/PaymentStatus")), Jvm.Cond.code ({ cls := "com/example/postback/postback/Payment$Builder", name := "<init>", desc := "()V" } : Jvm.MethodName) prog_6_method_1_code (1 : Nat) (Option.none : Option Jvm.ClassFile.FieldType), Jvm.Cond.code ({ cls := "java/lang/Object", name := "<init>", desc := "()V" } : Jvm.MethodName) object_method_1_code (1 : Nat) (Option.none : Option Jvm.ClassFile.FieldType), Jvm.Cond.code ({ cls := "com/example/postback/postback/Payment$Builder", name := "status", desc := "(Lcom/example/postback/postback/PaymentStatus;)Lcom/example/postback/postback/Payment$Builder;" } : Jvm.MethodName) prog_6_method_5_code (2 : Nat) (Option.some (Jvm.ClassFile.FieldType.object "com/example/postback/postback/Payment$Builder")), Jvm.Cond.code ({ cls := "java/util/Objects", name := "requireNonNull", desc := "(Ljava/lang/Object;Ljava/lang/String;)Ljava/lang/Object;" } : Jvm.MethodName) jdk_31_method_11_code (2 : Nat) (Option.some (Jvm.ClassFile.FieldType.object "java/lang/Object")), Jvm.Cond.code ({ cls := "com/example/postback/postback/Payment$Builder", name := "build", desc := "()Lcom/example/postback/postback/Payment;" } : Jvm.MethodName) prog_6_method_12_code (1 : Nat) (Option.some (Jvm.ClassFile.FieldType.object "com/example/postback/postback/Payment")), Jvm.Cond.code ({ cls := "com/example/postback/postback/Payment", name := "<init>", desc := "(Lcom/example/postback/postback/Payment$Builder;)V" } : Jvm.MethodName) prog_5_method_1_code (2 : Nat) (Option.none : Option Jvm.ClassFile.FieldType), Jvm.Cond.code ({ cls := "com/example/postback/postback/Payment", name := "status", desc := "()Lcom/example/postback/postback/PaymentStatus;" } : Jvm.MethodName) prog_5_method_5_code (1 : Nat) (Option.some (Jvm.ClassFile.FieldType.object "com/example/postback/postback/PaymentStatus")), Jvm.Cond.code ({ cls := "com/example/postback/postback/Payment", name := "kind", desc := "()Lcom/example/postback/postback/PaymentKind;" } : Jvm.MethodName) prog_5_method_2_code (1 : Nat) (Option.some (Jvm.ClassFile.FieldType.object "com/example/postback/postback/PaymentKind")), Jvm.Cond.code ({ cls := "com/example/postback/postback/Payment", name := "gatewayStatus", desc := "()Ljava/lang/String;" } : Jvm.MethodName) prog_5_method_6_code (1 : Nat) (Option.some (Jvm.ClassFile.FieldType.object "java/lang/String"))]
set_option maxRecDepth 65536 in
theorem codes_eq : words1.filter isCode = codes1 := rfl
theorem w_codes : ∀ c ∈ words1.filter isCode, c.before args0 about1 = true := by
  rw [codes_eq]
  intro c hc
  simp only [codes1, List.mem_cons, List.not_mem_nil, or_false] at hc
  rcases hc with rfl | rfl | rfl | rfl | rfl | rfl | rfl | rfl | rfl | rfl | rfl
  · exact w_c0
  · exact w_c1
  · exact w_c2
  · exact w_c3
  · exact w_c4
  · exact w_c5
  · exact w_c6
  · exact w_c7
  · exact w_c8
  · exact w_c9
  · exact w_c10
set_option maxRecDepth 65536 in
theorem w_t1 : (words1.take 24).all (fun c => isCode c || c.before args0 about1) = true := by decide +kernel
set_option maxRecDepth 65536 in
theorem w_t2 : ((words1.drop 24).take 24).all (fun c => isCode c || c.before args0 about1) = true := by decide +kernel
set_option maxRecDepth 65536 in
theorem w_t3 : (((words1.drop 24).drop 24).take 24).all (fun c => isCode c || c.before args0 about1) = true := by decide +kernel
set_option maxRecDepth 65536 in
theorem w_t4 : ((((words1.drop 24).drop 24).drop 24).take 24).all (fun c => isCode c || c.before args0 about1) = true := by decide +kernel
set_option maxRecDepth 65536 in
theorem w_t5 : (((((words1.drop 24).drop 24).drop 24).drop 24).take 24).all (fun c => isCode c || c.before args0 about1) = true := by decide +kernel
set_option maxRecDepth 65536 in
theorem w_t6 : (((((words1.drop 24).drop 24).drop 24).drop 24).drop 24).all (fun c => isCode c || c.before args0 about1) = true := by decide +kernel
theorem w_tables : (allAtoms (Jvm.Cond.code x code maxLocals ret :: tables_1)).before args0 about1 = true := by
  rw [allAtoms_all]
  show words1.all (fun c => c.before args0 about1) = true
  refine all_split ?_ w_codes
  rw [← List.take_append_drop 24 words1, List.all_append, w_t1, ← List.take_append_drop 24 (words1.drop 24), List.all_append, w_t2, ← List.take_append_drop 24 ((words1.drop 24).drop 24), List.all_append, w_t3, ← List.take_append_drop 24 (((words1.drop 24).drop 24).drop 24), List.all_append, w_t4, ← List.take_append_drop 24 ((((words1.drop 24).drop 24).drop 24).drop 24), List.all_append, w_t5, w_t6]
  rfl
set_option maxRecDepth 65536 in
theorem w_case : (Jvm.Cond.and given_1 narrow_1).before args0 about1 = true := by decide +kernel
theorem w_applies : (headSpec (Jvm.Cond.code x code maxLocals ret :: tables_1) room_1).applies x e0.platform about1 = true :=
  (Spec.applies_iff w_frames).mpr ⟨w_running, w_runnable, w_alone, w_named, w_hears, w_ripe, w_room, w_tables⟩
theorem atStart : AtStart classFile x code maxLocals ret World_1 tables_1 room_1 Calls_1 rest_1 Pre_1 launch0 p0 e0 about1 theMethod args0 below0 :=
  ⟨lists_1, trivial, launch0.admits_env _ _ _, launch0.least_env, fairChoices_fair.cas, fairChoices_fair.clock, w_frames, w_args, w_heap, w_applies, trivial, trivial, w_case⟩
end start1
theorem witness_1 : WitnessClaimed_1 := ⟨start1.p0, start1.e0, start1.about1, start1.theMethod, start1.args0, start1.below0, start1.atStart⟩
end Jvm.Pilot.@@N@@
