import JvmDerived
import JvmDerived.Pilot.@@N@@Statement
import JvmDerived.Pilot.@@N@@Code
set_option linter.unusedVariables false
set_option linter.unusedSimpArgs false
namespace Jvm.RoadKit
open Sem ClassFile Op Lib Jvm.Stand Jvm.Free Jvm.LawKit
section New
variable {p : Program} {l : Launch} {e : Env} {R : Room} {s : State} {m : MethodId} {args : Array Value} {below : List Frame} {meth : Method} {c : Code} {T : State} {locs : List Loc} {cells slots : Nat}
theorem retI (X : Stand p l e R s m args below meth c T locs cells slots) (hx : p.tables.exec = Jvm.exec) {pc : Nat} {Ls : Array Slot} {z : Int32} {rest : List Value} (hret : meth.sig.returnType = some .int) (hd : decode c.code pc = .ok (.ireturn, 1)) {fs : List Frame}
    (hl : ∀ (f : JFrame) (acts : List Action), f.method = m → f.locked = none → f.entered = [] → (doReturn e (T.setTop f) acts (some (.int z))).1 = T.setFrames fs) : Steps p.tables e below (T.setTop (mkF m pc Ls (.int z :: rest))) (T.setFrames fs) := by
  have hm' : T.vm.method? m = some meth := X.method'
  have hn : narrow .int (.int z) = .int z := rfl
  show Steps p.tables e below (T.setTop { method := m, pc := pc, locals := Ls, stack := _ :: rest, locked := none }) _
  jvm_step X.here [X.here.top, hx, hd, hm', hret, hn]
  first | (intro acts; rw [hl _ acts rfl rfl rfl]) | rw [hl _ _ rfl rfl rfl]
  exact Steps.refl _
end New
end Jvm.RoadKit
namespace Jvm.Pilot.@@N@@
open Jvm Jvm.ClassFile Sem Op Lib Jvm.Free Jvm.Stand Jvm.LawKit Jvm.RoadKit Bundle Jvm.Pilot.@@N@@.Jvm.D
def irm (a b : Int32) : Int32 := a - a / b * b
theorem wi {Z : State} {a0 : Array Value} (hw : ∀ d ∈ tables_1, d.before a0 Z = true) {d : Jvm.Cond} (i : Nat) (h : tables_1[i]? = some d) : d.before a0 Z = true := hw d (List.mem_of_getElem? h)
theorem own_uniq {Z : State} {h : Heap} {a : Addr} {C n d : String} {v w : Value} (F : Fld Z h a C n d v) (G : Fld Z h a C n d w) : v = w := by
  obtain ⟨c1, cf1, k1, i1, f1, a1, a2, -, -, -, -, a7⟩ := F
  obtain ⟨c2, cf2, k2, i2, f2, b1, b2, -, -, -, -, b7⟩ := G
  cases a1.symm.trans b1
  cases a2.symm.trans b2
  exact Option.some.inj (a7.symm.trans b7)
theorem own_ne {Z : State} {h : Heap} {a b : Addr} {C n d : String} {v w : Value} (F : Fld Z h a C n d v) (G : Fld Z h b C n d w) (hn : v ≠ w) : a ≠ b := fun e => by
  subst e
  exact hn (own_uniq F G)
theorem own_fldI {s : State} {args : Array Value} {t : Term} {a : Addr} {C n d : String} {k : Int32} (ev : t.eval args s none [] s = some (.ref a)) (h : (Cond.eq (Term.field t C n d) (Term.int k)).value args s none s [] = some true) : Fld s s.heap a C n d (.int k) := Fld.start ((fld_at ev).symm.trans (eqv_i rfl h))
theorem own_sg_lt {x : Int32} (h : x < 0) : ¬ x = 0 ∧ ¬ 0 < x := by
  rw [Int32.lt_iff_toInt_lt] at h
  have e : (0 : Int32).toInt = 0 := rfl
  refine ⟨fun q => ?_, fun q => ?_⟩
  · subst q; omega
  · rw [Int32.lt_iff_toInt_lt] at q; omega
theorem own_sg_eq {x : Int32} (h : x = 0) : ¬ x < 0 ∧ ¬ 0 < x := by subst h; decide
theorem own_sg_gt {x : Int32} (h : ¬ x < 0) (h' : ¬ x = 0) : 0 < x := by
  rw [Int32.lt_iff_toInt_lt] at h ⊢
  have e : (0 : Int32).toInt = 0 := rfl
  have h2 : x.toInt ≠ 0 := fun q => h' (Int32.toInt_inj.mp (q.trans e.symm))
  omega
def QP (r : Value) (h0 : Heap) (n0 : Nat) (v : Option Value) (h : Heap) (L : List Loc) : Prop := v = some r ∧ Fr n0 L ∧ h = h0
theorem d2_0 : decode jdk_37_method_2_code 0 = .ok (.aload_n 0, 1) := by decide +kernel
theorem d2_1 : decode jdk_37_method_2_code 1 = .ok (.getfield 7, 3) := by decide +kernel
theorem d2_4 : decode jdk_37_method_2_code 4 = .ok (.ireturn, 1) := by decide +kernel
theorem ef_R_1 (m : MethodId) (x0 : Addr) : entryFrame m #[(.ref x0)] 1 = mkF m 0 #[.val (.ref x0)] [] := by first | (simp [entryFrame, mkF, argsToLocals, Value.category]; done) | rfl
theorem pn_0 : plainName "java/lang/Enum" = true := by first | (simp [plainName, overriddenIn]; done) | decide +kernel
set_option maxRecDepth 65536 in
set_option maxHeartbeats 40000000 in
theorem rm2 (l : Launch) (Z : State) (a0 : Array Value) (hw : ∀ d ∈ tables_1, d.before a0 Z = true) (ws : List Jvm.Cond) (a1 : Addr) (k : Int32) (h0 : Heap) (n0 : Nat) (O0 : Old Z n0 h0) (F_o : Fld Z Z.heap a1 "java/lang/Enum" "ordinal" "I" (.int k)) :
    MetFree l (⟨"java/lang/Enum", "ordinal", "()I"⟩ : MethodName) (head1 (Jvm.Cond.code (⟨"java/lang/Enum", "ordinal", "()I"⟩ : MethodName) jdk_37_method_2_code 1 (some .int) :: ws) ({ frames := 0, cells := 0, slots := 0, locals := 0 } : Room)) (fun a_ U => a_ = #[(.ref a1)] ∧ Z.Warmed39 U.vm ∧ U.heap = h0) (fun _ _ _ _ _ => True) (fun _ U o U' => ∃ v L, o = .returned v ∧ QP (.int k) h0 n0 v U'.heap L ∧ FrameEnd U o U' L ({ frames := 0, cells := 0, slots := 0, locals := 0 } : Room).cells ({ frames := 0, cells := 0, slots := 0, locals := 0 } : Room).slots) := by
  refine MetFree.of_bodySF (plainFor_of_name pn_0) hisR ?_
  intro p e s m args below meth c s₁ Bd hml0 hP hK
  obtain ⟨rfl, hZ, hh⟩ := hP
  have hx := Bd.exec
  have hby := Bd.bytes
  have hml : c.maxLocals = 1 := hml0
  have hown : s.vm.findClass "java/lang/Enum" = some m.cls := findClass_of_methodNamed Bd.named
  have hnm := (name_of_methodNamed Bd.named Bd.method).1
  have X0 : Stand p l e ({ frames := 0, cells := 0, slots := 0, locals := 0 } : Room) s m #[(.ref a1)] below meth c s₁ [] 0 0 := Stand.of_body Bd
  have e0 : s₁.heap = h0 := by rw [← hh, Bd.state]; rfl
  have N0 := Fr.nil n0
  have pre0 : ∀ tg, Steps p.tables e below (s₁.setTop (mkF m 0 #[.val (.ref a1)] [])) tg → Steps p.tables e below (s₁.setTop (entryFrame m #[(.ref a1)] 1)) tg := fun tg kq => castTop (ef_R_1 m a1) kq
  obtain ⟨T101, X101, e101, st101⟩ := getF X0 hx hZ hown (host := "") (Or.inl (wi hw 16 rfl)) Via.refl e0 (F_o.ext O0.2) (g := (mkF m 1 #[.val (.ref a1)] [(.ref a1)])) rfl rfl (hb hby d2_1)
  obtain ⟨fs, hr, hrun, hended, hW, hsame⟩ := X101.leave (v := some (.int k)) (fun h => by rw [Bd.returns] at h; cases h)
  refine ⟨_, _, pre0 _ ?_, hrun, hended, _, _, rfl, ?_, ⟨_, rfl⟩, hW, hsame.mono (by decide) (by decide)⟩
  · show Steps p.tables e below (s₁.setTop (mkF m 0 #[.val (.ref a1)] [])) _
    refine XS.aloadN X0.here hx rfl (hb hby d2_0) rfl rfl ?_
    show Steps p.tables e below (s₁.setTop (mkF m 1 #[.val (.ref a1)] [(.ref a1)])) _
    refine st101 _ ?_
    show Steps p.tables e below (T101.setTop (mkF m 4 #[.val (.ref a1)] [(.int k)])) _
    exact retI X101 hx Bd.returns (hb hby d2_4) hr
  · show QP (.int k) h0 n0 _ T101.heap _
    rw [e101]
    exact ⟨rfl, N0, rfl⟩
theorem d1_0 : decode prog_73_method_5_code 0 = .ok (.aload_n 0, 1) := by decide +kernel
theorem d1_1 : decode prog_73_method_5_code 1 = .ok (.invokevirtual 59, 3) := by decide +kernel
theorem pd_0 : parseMethodDescriptor "()I" = some ⟨[], some .int⟩ := by decide +kernel
theorem d1_4 : decode prog_73_method_5_code 4 = .ok (.tableswitch 40 0 5 #[50, 62, 74, 86, 98, 110], 40) := by decide +kernel
theorem d1_54 : decode prog_73_method_5_code 54 = .ok (.iload_n 1, 1) := by decide +kernel
theorem d1_55 : decode prog_73_method_5_code 55 = .ok (.ifCond .ne 7, 3) := by decide +kernel
theorem d1_62 : decode prog_73_method_5_code 62 = .ok (.iconst 0, 1) := by decide +kernel
theorem d1_63 : decode prog_73_method_5_code 63 = .ok (.goto 60, 3) := by decide +kernel
theorem d1_123 : decode prog_73_method_5_code 123 = .ok (.ireturn, 1) := by decide +kernel
theorem ef_RI_2 (m : MethodId) (x0 : Addr) (x1 : Int32) : entryFrame m #[(.ref x0), (.int x1)] 2 = mkF m 0 #[.val (.ref x0), .val (.int x1)] [] := by first | (simp [entryFrame, mkF, argsToLocals, Value.category]; done) | rfl
theorem pn_1 : plainName "com/example/plugroot/plugroot/sql/Comparison" = true := by first | (simp [plainName, overriddenIn]; done) | decide +kernel
set_option maxRecDepth 65536 in
set_option maxHeartbeats 40000000 in
theorem rm1_0t (l : Launch) (Z : State) (a0 : Array Value) (hw : ∀ d ∈ tables_1, d.before a0 Z = true) (ws : List Jvm.Cond) (a1 : Addr) (p2 : Int32) (h0 : Heap) (n0 : Nat) (O0 : Old Z n0 h0) (F_o : Fld Z Z.heap a1 "java/lang/Enum" "ordinal" "I" (.int 0)) (E : Exa Z Z.heap a1 "com/example/plugroot/plugroot/sql/Comparison") (hc55 : ¬ (p2 = (0 : Int32))) :
    MetFree l (⟨"com/example/plugroot/plugroot/sql/Comparison", "holds", "(I)Z"⟩ : MethodName) (head1 (Jvm.Cond.code (⟨"com/example/plugroot/plugroot/sql/Comparison", "holds", "(I)Z"⟩ : MethodName) prog_73_method_5_code 2 (some .boolean) :: ws) ({ frames := 1, cells := 0, slots := 0, locals := 12 } : Room)) (fun a_ U => a_ = #[(.ref a1), (.int p2)] ∧ Z.Warmed39 U.vm ∧ U.heap = h0) (fun _ _ _ _ _ => True) (fun _ U o U' => ∃ v L, o = .returned v ∧ QP (.int (0 : Int32)) h0 n0 v U'.heap L ∧ FrameEnd U o U' L ({ frames := 1, cells := 0, slots := 0, locals := 12 } : Room).cells ({ frames := 1, cells := 0, slots := 0, locals := 12 } : Room).slots) := by
  refine MetFree.of_bodySF (plainFor_of_name pn_1) hisR ?_
  intro p e s m args below meth c s₁ Bd hml0 hP hK
  obtain ⟨rfl, hZ, hh⟩ := hP
  have hx := Bd.exec
  have hby := Bd.bytes
  have hml : c.maxLocals = 2 := hml0
  have hown : s.vm.findClass "com/example/plugroot/plugroot/sql/Comparison" = some m.cls := findClass_of_methodNamed Bd.named
  have hnm := (name_of_methodNamed Bd.named Bd.method).1
  have X0 : Stand p l e ({ frames := 1, cells := 0, slots := 0, locals := 12 } : Room) s m #[(.ref a1), (.int p2)] below meth c s₁ [] 0 0 := Stand.of_body Bd
  have e0 : s₁.heap = h0 := by rw [← hh, Bd.state]; rfl
  have N0 := Fr.nil n0
  have pre0 : ∀ tg, Steps p.tables e below (s₁.setTop (mkF m 0 #[.val (.ref a1), .val (.int p2)] [])) tg → Steps p.tables e below (s₁.setTop (entryFrame m #[(.ref a1), (.int p2)] 2)) tg := fun tg kq => castTop (ef_RI_2 m a1 p2) kq
  obtain ⟨cq101, kq101, q101a, q101b, q101c⟩ := isOf hZ e0 (E.ext O0.2)
  obtain ⟨_, _, ⟨T101, L101, k101, n101⟩, -, X101, ⟨Lc101, hQ101, l101, y101, z101⟩, st101⟩ := X0.virtualBackUp hx (x := (⟨"com/example/plugroot/plugroot/sql/Comparison", "ordinal", "()I"⟩ : MethodName)) (y := (⟨"java/lang/Enum", "ordinal", "()I"⟩ : MethodName)) hown (mvT hZ (wi hw 9 rfl)) (mvT hZ (wi hw 10 rfl)) (mvT hZ (wi hw 11 rfl)) (by decide) (mvT hZ (wi hw 13 rfl)) (mvT hZ (wi hw 12 rfl)) (backOf (W := 0) (rm2 l Z a0 hw [] a1 0 h0 n0 O0 F_o) hZ (wi hw 15 rfl) (wi hw 14 rfl) (by decide) (by decide)) q101a q101c (g := (mkF m 1 #[.val (.ref a1), .val (.int p2)] [(.ref a1)])) rfl (by rw [hml]; rfl) (Steps.refl _) (argsL := []) (rest := []) (lenOf pd_0 rfl) rfl (by show 2 * 0 + _ ≤ _; exact Nat.le_of_eq rfl) (hb hby d1_1) (fun _ _ => ⟨rfl, e0, (by decide : 0 + 0 ≤ _), (by decide : 0 + 0 ≤ _)⟩)
  dsimp only [Pt.U, Pt.locs, Pt.cells, Pt.slots] at X101 l101 y101 z101 st101 hQ101
  subst l101 y101 z101
  obtain ⟨rfl, N101q, hh101⟩ := hQ101
  have e101 : T101.heap = h0 := hh101
  have N101 := Fr.app N0 N101q
  obtain ⟨fs, hr, hrun, hended, hW, hsame⟩ := X101.leave (v := some (.int (0 : Int32))) (fun h => by rw [Bd.returns] at h; cases h)
  refine ⟨_, _, pre0 _ ?_, hrun, hended, _, _, rfl, ?_, ⟨_, rfl⟩, hW, hsame.mono (by decide) (by decide)⟩
  · show Steps p.tables e below (s₁.setTop (mkF m 0 #[.val (.ref a1), .val (.int p2)] [])) _
    refine XS.aloadN X0.here hx rfl (hb hby d1_0) rfl rfl ?_
    show Steps p.tables e below (s₁.setTop (mkF m 1 #[.val (.ref a1), .val (.int p2)] [(.ref a1)])) _
    refine st101.trans ?_
    show Steps p.tables e below (T101.setTop (mkF m 4 #[.val (.ref a1), .val (.int p2)] [(.int (0 : Int32))])) _
    refine XS.tswIn X101.here hx rfl (pc0 := 4) (pc' := 54) rfl (hb hby d1_4) rfl (o := 50) (by decide) (by decide) (by decide) (by decide) ?_
    show Steps p.tables e below (T101.setTop (mkF m 54 #[.val (.ref a1), .val (.int p2)] [])) _
    refine XS.iloadN X101.here hx rfl (hb hby d1_54) rfl ?_
    show Steps p.tables e below (T101.setTop (mkF m 55 #[.val (.ref a1), .val (.int p2)] [(.int p2)])) _
    refine XS.ifYes X101.here hx rfl (pc0 := 55) (pc' := 62) rfl (hb hby d1_55) rfl ((if0 _ _).trans (feq hc55).2) (by decide) (by decide) ?_
    show Steps p.tables e below (T101.setTop (mkF m 62 #[.val (.ref a1), .val (.int p2)] [])) _
    refine XS.iconst X101.here hx rfl (hb hby d1_62) ?_
    show Steps p.tables e below (T101.setTop (mkF m 63 #[.val (.ref a1), .val (.int p2)] [(.int (0 : Int32))])) _
    refine XS.goto X101.here hx rfl (pc0 := 63) (pc' := 123) rfl (hb hby d1_63) (by decide) (by decide) ?_
    show Steps p.tables e below (T101.setTop (mkF m 123 #[.val (.ref a1), .val (.int p2)] [(.int (0 : Int32))])) _
    exact retN X101 hx (t := .boolean) Bd.returns (by simp) (hb hby d1_123) hr
  · show QP (.int (0 : Int32)) h0 n0 _ T101.heap _
    rw [e101]
    exact ⟨rfl, N101, rfl⟩
theorem d1_58 : decode prog_73_method_5_code 58 = .ok (.iconst 1, 1) := by decide +kernel
theorem d1_59 : decode prog_73_method_5_code 59 = .ok (.goto 64, 3) := by decide +kernel
set_option maxRecDepth 65536 in
set_option maxHeartbeats 40000000 in
theorem rm1_0f (l : Launch) (Z : State) (a0 : Array Value) (hw : ∀ d ∈ tables_1, d.before a0 Z = true) (ws : List Jvm.Cond) (a1 : Addr) (p2 : Int32) (h0 : Heap) (n0 : Nat) (O0 : Old Z n0 h0) (F_o : Fld Z Z.heap a1 "java/lang/Enum" "ordinal" "I" (.int 0)) (E : Exa Z Z.heap a1 "com/example/plugroot/plugroot/sql/Comparison") (hc55 : p2 = (0 : Int32)) :
    MetFree l (⟨"com/example/plugroot/plugroot/sql/Comparison", "holds", "(I)Z"⟩ : MethodName) (head1 (Jvm.Cond.code (⟨"com/example/plugroot/plugroot/sql/Comparison", "holds", "(I)Z"⟩ : MethodName) prog_73_method_5_code 2 (some .boolean) :: ws) ({ frames := 1, cells := 0, slots := 0, locals := 12 } : Room)) (fun a_ U => a_ = #[(.ref a1), (.int p2)] ∧ Z.Warmed39 U.vm ∧ U.heap = h0) (fun _ _ _ _ _ => True) (fun _ U o U' => ∃ v L, o = .returned v ∧ QP (.int (1 : Int32)) h0 n0 v U'.heap L ∧ FrameEnd U o U' L ({ frames := 1, cells := 0, slots := 0, locals := 12 } : Room).cells ({ frames := 1, cells := 0, slots := 0, locals := 12 } : Room).slots) := by
  refine MetFree.of_bodySF (plainFor_of_name pn_1) hisR ?_
  intro p e s m args below meth c s₁ Bd hml0 hP hK
  obtain ⟨rfl, hZ, hh⟩ := hP
  have hx := Bd.exec
  have hby := Bd.bytes
  have hml : c.maxLocals = 2 := hml0
  have hown : s.vm.findClass "com/example/plugroot/plugroot/sql/Comparison" = some m.cls := findClass_of_methodNamed Bd.named
  have hnm := (name_of_methodNamed Bd.named Bd.method).1
  have X0 : Stand p l e ({ frames := 1, cells := 0, slots := 0, locals := 12 } : Room) s m #[(.ref a1), (.int p2)] below meth c s₁ [] 0 0 := Stand.of_body Bd
  have e0 : s₁.heap = h0 := by rw [← hh, Bd.state]; rfl
  have N0 := Fr.nil n0
  have pre0 : ∀ tg, Steps p.tables e below (s₁.setTop (mkF m 0 #[.val (.ref a1), .val (.int p2)] [])) tg → Steps p.tables e below (s₁.setTop (entryFrame m #[(.ref a1), (.int p2)] 2)) tg := fun tg kq => castTop (ef_RI_2 m a1 p2) kq
  obtain ⟨cq101, kq101, q101a, q101b, q101c⟩ := isOf hZ e0 (E.ext O0.2)
  obtain ⟨_, _, ⟨T101, L101, k101, n101⟩, -, X101, ⟨Lc101, hQ101, l101, y101, z101⟩, st101⟩ := X0.virtualBackUp hx (x := (⟨"com/example/plugroot/plugroot/sql/Comparison", "ordinal", "()I"⟩ : MethodName)) (y := (⟨"java/lang/Enum", "ordinal", "()I"⟩ : MethodName)) hown (mvT hZ (wi hw 9 rfl)) (mvT hZ (wi hw 10 rfl)) (mvT hZ (wi hw 11 rfl)) (by decide) (mvT hZ (wi hw 13 rfl)) (mvT hZ (wi hw 12 rfl)) (backOf (W := 0) (rm2 l Z a0 hw [] a1 0 h0 n0 O0 F_o) hZ (wi hw 15 rfl) (wi hw 14 rfl) (by decide) (by decide)) q101a q101c (g := (mkF m 1 #[.val (.ref a1), .val (.int p2)] [(.ref a1)])) rfl (by rw [hml]; rfl) (Steps.refl _) (argsL := []) (rest := []) (lenOf pd_0 rfl) rfl (by show 2 * 0 + _ ≤ _; exact Nat.le_of_eq rfl) (hb hby d1_1) (fun _ _ => ⟨rfl, e0, (by decide : 0 + 0 ≤ _), (by decide : 0 + 0 ≤ _)⟩)
  dsimp only [Pt.U, Pt.locs, Pt.cells, Pt.slots] at X101 l101 y101 z101 st101 hQ101
  subst l101 y101 z101
  obtain ⟨rfl, N101q, hh101⟩ := hQ101
  have e101 : T101.heap = h0 := hh101
  have N101 := Fr.app N0 N101q
  obtain ⟨fs, hr, hrun, hended, hW, hsame⟩ := X101.leave (v := some (.int (1 : Int32))) (fun h => by rw [Bd.returns] at h; cases h)
  refine ⟨_, _, pre0 _ ?_, hrun, hended, _, _, rfl, ?_, ⟨_, rfl⟩, hW, hsame.mono (by decide) (by decide)⟩
  · show Steps p.tables e below (s₁.setTop (mkF m 0 #[.val (.ref a1), .val (.int p2)] [])) _
    refine XS.aloadN X0.here hx rfl (hb hby d1_0) rfl rfl ?_
    show Steps p.tables e below (s₁.setTop (mkF m 1 #[.val (.ref a1), .val (.int p2)] [(.ref a1)])) _
    refine st101.trans ?_
    show Steps p.tables e below (T101.setTop (mkF m 4 #[.val (.ref a1), .val (.int p2)] [(.int (0 : Int32))])) _
    refine XS.tswIn X101.here hx rfl (pc0 := 4) (pc' := 54) rfl (hb hby d1_4) rfl (o := 50) (by decide) (by decide) (by decide) (by decide) ?_
    show Steps p.tables e below (T101.setTop (mkF m 54 #[.val (.ref a1), .val (.int p2)] [])) _
    refine XS.iloadN X101.here hx rfl (hb hby d1_54) rfl ?_
    show Steps p.tables e below (T101.setTop (mkF m 55 #[.val (.ref a1), .val (.int p2)] [(.int p2)])) _
    refine XS.ifNo X101.here hx rfl (hb hby d1_55) rfl ((if0 _ _).trans (teq hc55).2) ?_
    show Steps p.tables e below (T101.setTop (mkF m 58 #[.val (.ref a1), .val (.int p2)] [])) _
    refine XS.iconst X101.here hx rfl (hb hby d1_58) ?_
    show Steps p.tables e below (T101.setTop (mkF m 59 #[.val (.ref a1), .val (.int p2)] [(.int (1 : Int32))])) _
    refine XS.goto X101.here hx rfl (pc0 := 59) (pc' := 123) rfl (hb hby d1_59) (by decide) (by decide) ?_
    show Steps p.tables e below (T101.setTop (mkF m 123 #[.val (.ref a1), .val (.int p2)] [(.int (1 : Int32))])) _
    exact retN X101 hx (t := .boolean) Bd.returns (by simp) (hb hby d1_123) hr
  · show QP (.int (1 : Int32)) h0 n0 _ T101.heap _
    rw [e101]
    exact ⟨rfl, N101, rfl⟩
theorem d1_66 : decode prog_73_method_5_code 66 = .ok (.iload_n 1, 1) := by decide +kernel
theorem d1_67 : decode prog_73_method_5_code 67 = .ok (.ifCond .eq 7, 3) := by decide +kernel
theorem d1_74 : decode prog_73_method_5_code 74 = .ok (.iconst 0, 1) := by decide +kernel
theorem d1_75 : decode prog_73_method_5_code 75 = .ok (.goto 48, 3) := by decide +kernel
set_option maxRecDepth 65536 in
set_option maxHeartbeats 40000000 in
theorem rm1_1t (l : Launch) (Z : State) (a0 : Array Value) (hw : ∀ d ∈ tables_1, d.before a0 Z = true) (ws : List Jvm.Cond) (a1 : Addr) (p2 : Int32) (h0 : Heap) (n0 : Nat) (O0 : Old Z n0 h0) (F_o : Fld Z Z.heap a1 "java/lang/Enum" "ordinal" "I" (.int 1)) (E : Exa Z Z.heap a1 "com/example/plugroot/plugroot/sql/Comparison") (hc67 : p2 = (0 : Int32)) :
    MetFree l (⟨"com/example/plugroot/plugroot/sql/Comparison", "holds", "(I)Z"⟩ : MethodName) (head1 (Jvm.Cond.code (⟨"com/example/plugroot/plugroot/sql/Comparison", "holds", "(I)Z"⟩ : MethodName) prog_73_method_5_code 2 (some .boolean) :: ws) ({ frames := 1, cells := 0, slots := 0, locals := 12 } : Room)) (fun a_ U => a_ = #[(.ref a1), (.int p2)] ∧ Z.Warmed39 U.vm ∧ U.heap = h0) (fun _ _ _ _ _ => True) (fun _ U o U' => ∃ v L, o = .returned v ∧ QP (.int (0 : Int32)) h0 n0 v U'.heap L ∧ FrameEnd U o U' L ({ frames := 1, cells := 0, slots := 0, locals := 12 } : Room).cells ({ frames := 1, cells := 0, slots := 0, locals := 12 } : Room).slots) := by
  refine MetFree.of_bodySF (plainFor_of_name pn_1) hisR ?_
  intro p e s m args below meth c s₁ Bd hml0 hP hK
  obtain ⟨rfl, hZ, hh⟩ := hP
  have hx := Bd.exec
  have hby := Bd.bytes
  have hml : c.maxLocals = 2 := hml0
  have hown : s.vm.findClass "com/example/plugroot/plugroot/sql/Comparison" = some m.cls := findClass_of_methodNamed Bd.named
  have hnm := (name_of_methodNamed Bd.named Bd.method).1
  have X0 : Stand p l e ({ frames := 1, cells := 0, slots := 0, locals := 12 } : Room) s m #[(.ref a1), (.int p2)] below meth c s₁ [] 0 0 := Stand.of_body Bd
  have e0 : s₁.heap = h0 := by rw [← hh, Bd.state]; rfl
  have N0 := Fr.nil n0
  have pre0 : ∀ tg, Steps p.tables e below (s₁.setTop (mkF m 0 #[.val (.ref a1), .val (.int p2)] [])) tg → Steps p.tables e below (s₁.setTop (entryFrame m #[(.ref a1), (.int p2)] 2)) tg := fun tg kq => castTop (ef_RI_2 m a1 p2) kq
  obtain ⟨cq101, kq101, q101a, q101b, q101c⟩ := isOf hZ e0 (E.ext O0.2)
  obtain ⟨_, _, ⟨T101, L101, k101, n101⟩, -, X101, ⟨Lc101, hQ101, l101, y101, z101⟩, st101⟩ := X0.virtualBackUp hx (x := (⟨"com/example/plugroot/plugroot/sql/Comparison", "ordinal", "()I"⟩ : MethodName)) (y := (⟨"java/lang/Enum", "ordinal", "()I"⟩ : MethodName)) hown (mvT hZ (wi hw 9 rfl)) (mvT hZ (wi hw 10 rfl)) (mvT hZ (wi hw 11 rfl)) (by decide) (mvT hZ (wi hw 13 rfl)) (mvT hZ (wi hw 12 rfl)) (backOf (W := 0) (rm2 l Z a0 hw [] a1 1 h0 n0 O0 F_o) hZ (wi hw 15 rfl) (wi hw 14 rfl) (by decide) (by decide)) q101a q101c (g := (mkF m 1 #[.val (.ref a1), .val (.int p2)] [(.ref a1)])) rfl (by rw [hml]; rfl) (Steps.refl _) (argsL := []) (rest := []) (lenOf pd_0 rfl) rfl (by show 2 * 0 + _ ≤ _; exact Nat.le_of_eq rfl) (hb hby d1_1) (fun _ _ => ⟨rfl, e0, (by decide : 0 + 0 ≤ _), (by decide : 0 + 0 ≤ _)⟩)
  dsimp only [Pt.U, Pt.locs, Pt.cells, Pt.slots] at X101 l101 y101 z101 st101 hQ101
  subst l101 y101 z101
  obtain ⟨rfl, N101q, hh101⟩ := hQ101
  have e101 : T101.heap = h0 := hh101
  have N101 := Fr.app N0 N101q
  obtain ⟨fs, hr, hrun, hended, hW, hsame⟩ := X101.leave (v := some (.int (0 : Int32))) (fun h => by rw [Bd.returns] at h; cases h)
  refine ⟨_, _, pre0 _ ?_, hrun, hended, _, _, rfl, ?_, ⟨_, rfl⟩, hW, hsame.mono (by decide) (by decide)⟩
  · show Steps p.tables e below (s₁.setTop (mkF m 0 #[.val (.ref a1), .val (.int p2)] [])) _
    refine XS.aloadN X0.here hx rfl (hb hby d1_0) rfl rfl ?_
    show Steps p.tables e below (s₁.setTop (mkF m 1 #[.val (.ref a1), .val (.int p2)] [(.ref a1)])) _
    refine st101.trans ?_
    show Steps p.tables e below (T101.setTop (mkF m 4 #[.val (.ref a1), .val (.int p2)] [(.int (1 : Int32))])) _
    refine XS.tswIn X101.here hx rfl (pc0 := 4) (pc' := 66) rfl (hb hby d1_4) rfl (o := 62) (by decide) (by decide) (by decide) (by decide) ?_
    show Steps p.tables e below (T101.setTop (mkF m 66 #[.val (.ref a1), .val (.int p2)] [])) _
    refine XS.iloadN X101.here hx rfl (hb hby d1_66) rfl ?_
    show Steps p.tables e below (T101.setTop (mkF m 67 #[.val (.ref a1), .val (.int p2)] [(.int p2)])) _
    refine XS.ifYes X101.here hx rfl (pc0 := 67) (pc' := 74) rfl (hb hby d1_67) rfl ((if0 _ _).trans (teq hc67).1) (by decide) (by decide) ?_
    show Steps p.tables e below (T101.setTop (mkF m 74 #[.val (.ref a1), .val (.int p2)] [])) _
    refine XS.iconst X101.here hx rfl (hb hby d1_74) ?_
    show Steps p.tables e below (T101.setTop (mkF m 75 #[.val (.ref a1), .val (.int p2)] [(.int (0 : Int32))])) _
    refine XS.goto X101.here hx rfl (pc0 := 75) (pc' := 123) rfl (hb hby d1_75) (by decide) (by decide) ?_
    show Steps p.tables e below (T101.setTop (mkF m 123 #[.val (.ref a1), .val (.int p2)] [(.int (0 : Int32))])) _
    exact retN X101 hx (t := .boolean) Bd.returns (by simp) (hb hby d1_123) hr
  · show QP (.int (0 : Int32)) h0 n0 _ T101.heap _
    rw [e101]
    exact ⟨rfl, N101, rfl⟩
theorem d1_70 : decode prog_73_method_5_code 70 = .ok (.iconst 1, 1) := by decide +kernel
theorem d1_71 : decode prog_73_method_5_code 71 = .ok (.goto 52, 3) := by decide +kernel
set_option maxRecDepth 65536 in
set_option maxHeartbeats 40000000 in
theorem rm1_1f (l : Launch) (Z : State) (a0 : Array Value) (hw : ∀ d ∈ tables_1, d.before a0 Z = true) (ws : List Jvm.Cond) (a1 : Addr) (p2 : Int32) (h0 : Heap) (n0 : Nat) (O0 : Old Z n0 h0) (F_o : Fld Z Z.heap a1 "java/lang/Enum" "ordinal" "I" (.int 1)) (E : Exa Z Z.heap a1 "com/example/plugroot/plugroot/sql/Comparison") (hc67 : ¬ (p2 = (0 : Int32))) :
    MetFree l (⟨"com/example/plugroot/plugroot/sql/Comparison", "holds", "(I)Z"⟩ : MethodName) (head1 (Jvm.Cond.code (⟨"com/example/plugroot/plugroot/sql/Comparison", "holds", "(I)Z"⟩ : MethodName) prog_73_method_5_code 2 (some .boolean) :: ws) ({ frames := 1, cells := 0, slots := 0, locals := 12 } : Room)) (fun a_ U => a_ = #[(.ref a1), (.int p2)] ∧ Z.Warmed39 U.vm ∧ U.heap = h0) (fun _ _ _ _ _ => True) (fun _ U o U' => ∃ v L, o = .returned v ∧ QP (.int (1 : Int32)) h0 n0 v U'.heap L ∧ FrameEnd U o U' L ({ frames := 1, cells := 0, slots := 0, locals := 12 } : Room).cells ({ frames := 1, cells := 0, slots := 0, locals := 12 } : Room).slots) := by
  refine MetFree.of_bodySF (plainFor_of_name pn_1) hisR ?_
  intro p e s m args below meth c s₁ Bd hml0 hP hK
  obtain ⟨rfl, hZ, hh⟩ := hP
  have hx := Bd.exec
  have hby := Bd.bytes
  have hml : c.maxLocals = 2 := hml0
  have hown : s.vm.findClass "com/example/plugroot/plugroot/sql/Comparison" = some m.cls := findClass_of_methodNamed Bd.named
  have hnm := (name_of_methodNamed Bd.named Bd.method).1
  have X0 : Stand p l e ({ frames := 1, cells := 0, slots := 0, locals := 12 } : Room) s m #[(.ref a1), (.int p2)] below meth c s₁ [] 0 0 := Stand.of_body Bd
  have e0 : s₁.heap = h0 := by rw [← hh, Bd.state]; rfl
  have N0 := Fr.nil n0
  have pre0 : ∀ tg, Steps p.tables e below (s₁.setTop (mkF m 0 #[.val (.ref a1), .val (.int p2)] [])) tg → Steps p.tables e below (s₁.setTop (entryFrame m #[(.ref a1), (.int p2)] 2)) tg := fun tg kq => castTop (ef_RI_2 m a1 p2) kq
  obtain ⟨cq101, kq101, q101a, q101b, q101c⟩ := isOf hZ e0 (E.ext O0.2)
  obtain ⟨_, _, ⟨T101, L101, k101, n101⟩, -, X101, ⟨Lc101, hQ101, l101, y101, z101⟩, st101⟩ := X0.virtualBackUp hx (x := (⟨"com/example/plugroot/plugroot/sql/Comparison", "ordinal", "()I"⟩ : MethodName)) (y := (⟨"java/lang/Enum", "ordinal", "()I"⟩ : MethodName)) hown (mvT hZ (wi hw 9 rfl)) (mvT hZ (wi hw 10 rfl)) (mvT hZ (wi hw 11 rfl)) (by decide) (mvT hZ (wi hw 13 rfl)) (mvT hZ (wi hw 12 rfl)) (backOf (W := 0) (rm2 l Z a0 hw [] a1 1 h0 n0 O0 F_o) hZ (wi hw 15 rfl) (wi hw 14 rfl) (by decide) (by decide)) q101a q101c (g := (mkF m 1 #[.val (.ref a1), .val (.int p2)] [(.ref a1)])) rfl (by rw [hml]; rfl) (Steps.refl _) (argsL := []) (rest := []) (lenOf pd_0 rfl) rfl (by show 2 * 0 + _ ≤ _; exact Nat.le_of_eq rfl) (hb hby d1_1) (fun _ _ => ⟨rfl, e0, (by decide : 0 + 0 ≤ _), (by decide : 0 + 0 ≤ _)⟩)
  dsimp only [Pt.U, Pt.locs, Pt.cells, Pt.slots] at X101 l101 y101 z101 st101 hQ101
  subst l101 y101 z101
  obtain ⟨rfl, N101q, hh101⟩ := hQ101
  have e101 : T101.heap = h0 := hh101
  have N101 := Fr.app N0 N101q
  obtain ⟨fs, hr, hrun, hended, hW, hsame⟩ := X101.leave (v := some (.int (1 : Int32))) (fun h => by rw [Bd.returns] at h; cases h)
  refine ⟨_, _, pre0 _ ?_, hrun, hended, _, _, rfl, ?_, ⟨_, rfl⟩, hW, hsame.mono (by decide) (by decide)⟩
  · show Steps p.tables e below (s₁.setTop (mkF m 0 #[.val (.ref a1), .val (.int p2)] [])) _
    refine XS.aloadN X0.here hx rfl (hb hby d1_0) rfl rfl ?_
    show Steps p.tables e below (s₁.setTop (mkF m 1 #[.val (.ref a1), .val (.int p2)] [(.ref a1)])) _
    refine st101.trans ?_
    show Steps p.tables e below (T101.setTop (mkF m 4 #[.val (.ref a1), .val (.int p2)] [(.int (1 : Int32))])) _
    refine XS.tswIn X101.here hx rfl (pc0 := 4) (pc' := 66) rfl (hb hby d1_4) rfl (o := 62) (by decide) (by decide) (by decide) (by decide) ?_
    show Steps p.tables e below (T101.setTop (mkF m 66 #[.val (.ref a1), .val (.int p2)] [])) _
    refine XS.iloadN X101.here hx rfl (hb hby d1_66) rfl ?_
    show Steps p.tables e below (T101.setTop (mkF m 67 #[.val (.ref a1), .val (.int p2)] [(.int p2)])) _
    refine XS.ifNo X101.here hx rfl (hb hby d1_67) rfl ((if0 _ _).trans (feq hc67).1) ?_
    show Steps p.tables e below (T101.setTop (mkF m 70 #[.val (.ref a1), .val (.int p2)] [])) _
    refine XS.iconst X101.here hx rfl (hb hby d1_70) ?_
    show Steps p.tables e below (T101.setTop (mkF m 71 #[.val (.ref a1), .val (.int p2)] [(.int (1 : Int32))])) _
    refine XS.goto X101.here hx rfl (pc0 := 71) (pc' := 123) rfl (hb hby d1_71) (by decide) (by decide) ?_
    show Steps p.tables e below (T101.setTop (mkF m 123 #[.val (.ref a1), .val (.int p2)] [(.int (1 : Int32))])) _
    exact retN X101 hx (t := .boolean) Bd.returns (by simp) (hb hby d1_123) hr
  · show QP (.int (1 : Int32)) h0 n0 _ T101.heap _
    rw [e101]
    exact ⟨rfl, N101, rfl⟩
theorem d1_78 : decode prog_73_method_5_code 78 = .ok (.iload_n 1, 1) := by decide +kernel
theorem d1_79 : decode prog_73_method_5_code 79 = .ok (.ifCond .ge 7, 3) := by decide +kernel
theorem d1_86 : decode prog_73_method_5_code 86 = .ok (.iconst 0, 1) := by decide +kernel
theorem d1_87 : decode prog_73_method_5_code 87 = .ok (.goto 36, 3) := by decide +kernel
set_option maxRecDepth 65536 in
set_option maxHeartbeats 40000000 in
theorem rm1_2t (l : Launch) (Z : State) (a0 : Array Value) (hw : ∀ d ∈ tables_1, d.before a0 Z = true) (ws : List Jvm.Cond) (a1 : Addr) (p2 : Int32) (h0 : Heap) (n0 : Nat) (O0 : Old Z n0 h0) (F_o : Fld Z Z.heap a1 "java/lang/Enum" "ordinal" "I" (.int 2)) (E : Exa Z Z.heap a1 "com/example/plugroot/plugroot/sql/Comparison") (hc79 : ¬ (p2 < (0 : Int32))) :
    MetFree l (⟨"com/example/plugroot/plugroot/sql/Comparison", "holds", "(I)Z"⟩ : MethodName) (head1 (Jvm.Cond.code (⟨"com/example/plugroot/plugroot/sql/Comparison", "holds", "(I)Z"⟩ : MethodName) prog_73_method_5_code 2 (some .boolean) :: ws) ({ frames := 1, cells := 0, slots := 0, locals := 12 } : Room)) (fun a_ U => a_ = #[(.ref a1), (.int p2)] ∧ Z.Warmed39 U.vm ∧ U.heap = h0) (fun _ _ _ _ _ => True) (fun _ U o U' => ∃ v L, o = .returned v ∧ QP (.int (0 : Int32)) h0 n0 v U'.heap L ∧ FrameEnd U o U' L ({ frames := 1, cells := 0, slots := 0, locals := 12 } : Room).cells ({ frames := 1, cells := 0, slots := 0, locals := 12 } : Room).slots) := by
  refine MetFree.of_bodySF (plainFor_of_name pn_1) hisR ?_
  intro p e s m args below meth c s₁ Bd hml0 hP hK
  obtain ⟨rfl, hZ, hh⟩ := hP
  have hx := Bd.exec
  have hby := Bd.bytes
  have hml : c.maxLocals = 2 := hml0
  have hown : s.vm.findClass "com/example/plugroot/plugroot/sql/Comparison" = some m.cls := findClass_of_methodNamed Bd.named
  have hnm := (name_of_methodNamed Bd.named Bd.method).1
  have X0 : Stand p l e ({ frames := 1, cells := 0, slots := 0, locals := 12 } : Room) s m #[(.ref a1), (.int p2)] below meth c s₁ [] 0 0 := Stand.of_body Bd
  have e0 : s₁.heap = h0 := by rw [← hh, Bd.state]; rfl
  have N0 := Fr.nil n0
  have pre0 : ∀ tg, Steps p.tables e below (s₁.setTop (mkF m 0 #[.val (.ref a1), .val (.int p2)] [])) tg → Steps p.tables e below (s₁.setTop (entryFrame m #[(.ref a1), (.int p2)] 2)) tg := fun tg kq => castTop (ef_RI_2 m a1 p2) kq
  obtain ⟨cq101, kq101, q101a, q101b, q101c⟩ := isOf hZ e0 (E.ext O0.2)
  obtain ⟨_, _, ⟨T101, L101, k101, n101⟩, -, X101, ⟨Lc101, hQ101, l101, y101, z101⟩, st101⟩ := X0.virtualBackUp hx (x := (⟨"com/example/plugroot/plugroot/sql/Comparison", "ordinal", "()I"⟩ : MethodName)) (y := (⟨"java/lang/Enum", "ordinal", "()I"⟩ : MethodName)) hown (mvT hZ (wi hw 9 rfl)) (mvT hZ (wi hw 10 rfl)) (mvT hZ (wi hw 11 rfl)) (by decide) (mvT hZ (wi hw 13 rfl)) (mvT hZ (wi hw 12 rfl)) (backOf (W := 0) (rm2 l Z a0 hw [] a1 2 h0 n0 O0 F_o) hZ (wi hw 15 rfl) (wi hw 14 rfl) (by decide) (by decide)) q101a q101c (g := (mkF m 1 #[.val (.ref a1), .val (.int p2)] [(.ref a1)])) rfl (by rw [hml]; rfl) (Steps.refl _) (argsL := []) (rest := []) (lenOf pd_0 rfl) rfl (by show 2 * 0 + _ ≤ _; exact Nat.le_of_eq rfl) (hb hby d1_1) (fun _ _ => ⟨rfl, e0, (by decide : 0 + 0 ≤ _), (by decide : 0 + 0 ≤ _)⟩)
  dsimp only [Pt.U, Pt.locs, Pt.cells, Pt.slots] at X101 l101 y101 z101 st101 hQ101
  subst l101 y101 z101
  obtain ⟨rfl, N101q, hh101⟩ := hQ101
  have e101 : T101.heap = h0 := hh101
  have N101 := Fr.app N0 N101q
  obtain ⟨fs, hr, hrun, hended, hW, hsame⟩ := X101.leave (v := some (.int (0 : Int32))) (fun h => by rw [Bd.returns] at h; cases h)
  refine ⟨_, _, pre0 _ ?_, hrun, hended, _, _, rfl, ?_, ⟨_, rfl⟩, hW, hsame.mono (by decide) (by decide)⟩
  · show Steps p.tables e below (s₁.setTop (mkF m 0 #[.val (.ref a1), .val (.int p2)] [])) _
    refine XS.aloadN X0.here hx rfl (hb hby d1_0) rfl rfl ?_
    show Steps p.tables e below (s₁.setTop (mkF m 1 #[.val (.ref a1), .val (.int p2)] [(.ref a1)])) _
    refine st101.trans ?_
    show Steps p.tables e below (T101.setTop (mkF m 4 #[.val (.ref a1), .val (.int p2)] [(.int (2 : Int32))])) _
    refine XS.tswIn X101.here hx rfl (pc0 := 4) (pc' := 78) rfl (hb hby d1_4) rfl (o := 74) (by decide) (by decide) (by decide) (by decide) ?_
    show Steps p.tables e below (T101.setTop (mkF m 78 #[.val (.ref a1), .val (.int p2)] [])) _
    refine XS.iloadN X101.here hx rfl (hb hby d1_78) rfl ?_
    show Steps p.tables e below (T101.setTop (mkF m 79 #[.val (.ref a1), .val (.int p2)] [(.int p2)])) _
    refine XS.ifYes X101.here hx rfl (pc0 := 79) (pc' := 86) rfl (hb hby d1_79) rfl ((if0 _ _).trans (flt hc79).2.1) (by decide) (by decide) ?_
    show Steps p.tables e below (T101.setTop (mkF m 86 #[.val (.ref a1), .val (.int p2)] [])) _
    refine XS.iconst X101.here hx rfl (hb hby d1_86) ?_
    show Steps p.tables e below (T101.setTop (mkF m 87 #[.val (.ref a1), .val (.int p2)] [(.int (0 : Int32))])) _
    refine XS.goto X101.here hx rfl (pc0 := 87) (pc' := 123) rfl (hb hby d1_87) (by decide) (by decide) ?_
    show Steps p.tables e below (T101.setTop (mkF m 123 #[.val (.ref a1), .val (.int p2)] [(.int (0 : Int32))])) _
    exact retN X101 hx (t := .boolean) Bd.returns (by simp) (hb hby d1_123) hr
  · show QP (.int (0 : Int32)) h0 n0 _ T101.heap _
    rw [e101]
    exact ⟨rfl, N101, rfl⟩
theorem d1_82 : decode prog_73_method_5_code 82 = .ok (.iconst 1, 1) := by decide +kernel
theorem d1_83 : decode prog_73_method_5_code 83 = .ok (.goto 40, 3) := by decide +kernel
set_option maxRecDepth 65536 in
set_option maxHeartbeats 40000000 in
theorem rm1_2f (l : Launch) (Z : State) (a0 : Array Value) (hw : ∀ d ∈ tables_1, d.before a0 Z = true) (ws : List Jvm.Cond) (a1 : Addr) (p2 : Int32) (h0 : Heap) (n0 : Nat) (O0 : Old Z n0 h0) (F_o : Fld Z Z.heap a1 "java/lang/Enum" "ordinal" "I" (.int 2)) (E : Exa Z Z.heap a1 "com/example/plugroot/plugroot/sql/Comparison") (hc79 : p2 < (0 : Int32)) :
    MetFree l (⟨"com/example/plugroot/plugroot/sql/Comparison", "holds", "(I)Z"⟩ : MethodName) (head1 (Jvm.Cond.code (⟨"com/example/plugroot/plugroot/sql/Comparison", "holds", "(I)Z"⟩ : MethodName) prog_73_method_5_code 2 (some .boolean) :: ws) ({ frames := 1, cells := 0, slots := 0, locals := 12 } : Room)) (fun a_ U => a_ = #[(.ref a1), (.int p2)] ∧ Z.Warmed39 U.vm ∧ U.heap = h0) (fun _ _ _ _ _ => True) (fun _ U o U' => ∃ v L, o = .returned v ∧ QP (.int (1 : Int32)) h0 n0 v U'.heap L ∧ FrameEnd U o U' L ({ frames := 1, cells := 0, slots := 0, locals := 12 } : Room).cells ({ frames := 1, cells := 0, slots := 0, locals := 12 } : Room).slots) := by
  refine MetFree.of_bodySF (plainFor_of_name pn_1) hisR ?_
  intro p e s m args below meth c s₁ Bd hml0 hP hK
  obtain ⟨rfl, hZ, hh⟩ := hP
  have hx := Bd.exec
  have hby := Bd.bytes
  have hml : c.maxLocals = 2 := hml0
  have hown : s.vm.findClass "com/example/plugroot/plugroot/sql/Comparison" = some m.cls := findClass_of_methodNamed Bd.named
  have hnm := (name_of_methodNamed Bd.named Bd.method).1
  have X0 : Stand p l e ({ frames := 1, cells := 0, slots := 0, locals := 12 } : Room) s m #[(.ref a1), (.int p2)] below meth c s₁ [] 0 0 := Stand.of_body Bd
  have e0 : s₁.heap = h0 := by rw [← hh, Bd.state]; rfl
  have N0 := Fr.nil n0
  have pre0 : ∀ tg, Steps p.tables e below (s₁.setTop (mkF m 0 #[.val (.ref a1), .val (.int p2)] [])) tg → Steps p.tables e below (s₁.setTop (entryFrame m #[(.ref a1), (.int p2)] 2)) tg := fun tg kq => castTop (ef_RI_2 m a1 p2) kq
  obtain ⟨cq101, kq101, q101a, q101b, q101c⟩ := isOf hZ e0 (E.ext O0.2)
  obtain ⟨_, _, ⟨T101, L101, k101, n101⟩, -, X101, ⟨Lc101, hQ101, l101, y101, z101⟩, st101⟩ := X0.virtualBackUp hx (x := (⟨"com/example/plugroot/plugroot/sql/Comparison", "ordinal", "()I"⟩ : MethodName)) (y := (⟨"java/lang/Enum", "ordinal", "()I"⟩ : MethodName)) hown (mvT hZ (wi hw 9 rfl)) (mvT hZ (wi hw 10 rfl)) (mvT hZ (wi hw 11 rfl)) (by decide) (mvT hZ (wi hw 13 rfl)) (mvT hZ (wi hw 12 rfl)) (backOf (W := 0) (rm2 l Z a0 hw [] a1 2 h0 n0 O0 F_o) hZ (wi hw 15 rfl) (wi hw 14 rfl) (by decide) (by decide)) q101a q101c (g := (mkF m 1 #[.val (.ref a1), .val (.int p2)] [(.ref a1)])) rfl (by rw [hml]; rfl) (Steps.refl _) (argsL := []) (rest := []) (lenOf pd_0 rfl) rfl (by show 2 * 0 + _ ≤ _; exact Nat.le_of_eq rfl) (hb hby d1_1) (fun _ _ => ⟨rfl, e0, (by decide : 0 + 0 ≤ _), (by decide : 0 + 0 ≤ _)⟩)
  dsimp only [Pt.U, Pt.locs, Pt.cells, Pt.slots] at X101 l101 y101 z101 st101 hQ101
  subst l101 y101 z101
  obtain ⟨rfl, N101q, hh101⟩ := hQ101
  have e101 : T101.heap = h0 := hh101
  have N101 := Fr.app N0 N101q
  obtain ⟨fs, hr, hrun, hended, hW, hsame⟩ := X101.leave (v := some (.int (1 : Int32))) (fun h => by rw [Bd.returns] at h; cases h)
  refine ⟨_, _, pre0 _ ?_, hrun, hended, _, _, rfl, ?_, ⟨_, rfl⟩, hW, hsame.mono (by decide) (by decide)⟩
  · show Steps p.tables e below (s₁.setTop (mkF m 0 #[.val (.ref a1), .val (.int p2)] [])) _
    refine XS.aloadN X0.here hx rfl (hb hby d1_0) rfl rfl ?_
    show Steps p.tables e below (s₁.setTop (mkF m 1 #[.val (.ref a1), .val (.int p2)] [(.ref a1)])) _
    refine st101.trans ?_
    show Steps p.tables e below (T101.setTop (mkF m 4 #[.val (.ref a1), .val (.int p2)] [(.int (2 : Int32))])) _
    refine XS.tswIn X101.here hx rfl (pc0 := 4) (pc' := 78) rfl (hb hby d1_4) rfl (o := 74) (by decide) (by decide) (by decide) (by decide) ?_
    show Steps p.tables e below (T101.setTop (mkF m 78 #[.val (.ref a1), .val (.int p2)] [])) _
    refine XS.iloadN X101.here hx rfl (hb hby d1_78) rfl ?_
    show Steps p.tables e below (T101.setTop (mkF m 79 #[.val (.ref a1), .val (.int p2)] [(.int p2)])) _
    refine XS.ifNo X101.here hx rfl (hb hby d1_79) rfl ((if0 _ _).trans (tlt hc79).2.1) ?_
    show Steps p.tables e below (T101.setTop (mkF m 82 #[.val (.ref a1), .val (.int p2)] [])) _
    refine XS.iconst X101.here hx rfl (hb hby d1_82) ?_
    show Steps p.tables e below (T101.setTop (mkF m 83 #[.val (.ref a1), .val (.int p2)] [(.int (1 : Int32))])) _
    refine XS.goto X101.here hx rfl (pc0 := 83) (pc' := 123) rfl (hb hby d1_83) (by decide) (by decide) ?_
    show Steps p.tables e below (T101.setTop (mkF m 123 #[.val (.ref a1), .val (.int p2)] [(.int (1 : Int32))])) _
    exact retN X101 hx (t := .boolean) Bd.returns (by simp) (hb hby d1_123) hr
  · show QP (.int (1 : Int32)) h0 n0 _ T101.heap _
    rw [e101]
    exact ⟨rfl, N101, rfl⟩
theorem d1_90 : decode prog_73_method_5_code 90 = .ok (.iload_n 1, 1) := by decide +kernel
theorem d1_91 : decode prog_73_method_5_code 91 = .ok (.ifCond .le 7, 3) := by decide +kernel
theorem d1_98 : decode prog_73_method_5_code 98 = .ok (.iconst 0, 1) := by decide +kernel
theorem d1_99 : decode prog_73_method_5_code 99 = .ok (.goto 24, 3) := by decide +kernel
set_option maxRecDepth 65536 in
set_option maxHeartbeats 40000000 in
theorem rm1_3t (l : Launch) (Z : State) (a0 : Array Value) (hw : ∀ d ∈ tables_1, d.before a0 Z = true) (ws : List Jvm.Cond) (a1 : Addr) (p2 : Int32) (h0 : Heap) (n0 : Nat) (O0 : Old Z n0 h0) (F_o : Fld Z Z.heap a1 "java/lang/Enum" "ordinal" "I" (.int 3)) (E : Exa Z Z.heap a1 "com/example/plugroot/plugroot/sql/Comparison") (hc91 : ¬ ((0 : Int32) < p2)) :
    MetFree l (⟨"com/example/plugroot/plugroot/sql/Comparison", "holds", "(I)Z"⟩ : MethodName) (head1 (Jvm.Cond.code (⟨"com/example/plugroot/plugroot/sql/Comparison", "holds", "(I)Z"⟩ : MethodName) prog_73_method_5_code 2 (some .boolean) :: ws) ({ frames := 1, cells := 0, slots := 0, locals := 12 } : Room)) (fun a_ U => a_ = #[(.ref a1), (.int p2)] ∧ Z.Warmed39 U.vm ∧ U.heap = h0) (fun _ _ _ _ _ => True) (fun _ U o U' => ∃ v L, o = .returned v ∧ QP (.int (0 : Int32)) h0 n0 v U'.heap L ∧ FrameEnd U o U' L ({ frames := 1, cells := 0, slots := 0, locals := 12 } : Room).cells ({ frames := 1, cells := 0, slots := 0, locals := 12 } : Room).slots) := by
  refine MetFree.of_bodySF (plainFor_of_name pn_1) hisR ?_
  intro p e s m args below meth c s₁ Bd hml0 hP hK
  obtain ⟨rfl, hZ, hh⟩ := hP
  have hx := Bd.exec
  have hby := Bd.bytes
  have hml : c.maxLocals = 2 := hml0
  have hown : s.vm.findClass "com/example/plugroot/plugroot/sql/Comparison" = some m.cls := findClass_of_methodNamed Bd.named
  have hnm := (name_of_methodNamed Bd.named Bd.method).1
  have X0 : Stand p l e ({ frames := 1, cells := 0, slots := 0, locals := 12 } : Room) s m #[(.ref a1), (.int p2)] below meth c s₁ [] 0 0 := Stand.of_body Bd
  have e0 : s₁.heap = h0 := by rw [← hh, Bd.state]; rfl
  have N0 := Fr.nil n0
  have pre0 : ∀ tg, Steps p.tables e below (s₁.setTop (mkF m 0 #[.val (.ref a1), .val (.int p2)] [])) tg → Steps p.tables e below (s₁.setTop (entryFrame m #[(.ref a1), (.int p2)] 2)) tg := fun tg kq => castTop (ef_RI_2 m a1 p2) kq
  obtain ⟨cq101, kq101, q101a, q101b, q101c⟩ := isOf hZ e0 (E.ext O0.2)
  obtain ⟨_, _, ⟨T101, L101, k101, n101⟩, -, X101, ⟨Lc101, hQ101, l101, y101, z101⟩, st101⟩ := X0.virtualBackUp hx (x := (⟨"com/example/plugroot/plugroot/sql/Comparison", "ordinal", "()I"⟩ : MethodName)) (y := (⟨"java/lang/Enum", "ordinal", "()I"⟩ : MethodName)) hown (mvT hZ (wi hw 9 rfl)) (mvT hZ (wi hw 10 rfl)) (mvT hZ (wi hw 11 rfl)) (by decide) (mvT hZ (wi hw 13 rfl)) (mvT hZ (wi hw 12 rfl)) (backOf (W := 0) (rm2 l Z a0 hw [] a1 3 h0 n0 O0 F_o) hZ (wi hw 15 rfl) (wi hw 14 rfl) (by decide) (by decide)) q101a q101c (g := (mkF m 1 #[.val (.ref a1), .val (.int p2)] [(.ref a1)])) rfl (by rw [hml]; rfl) (Steps.refl _) (argsL := []) (rest := []) (lenOf pd_0 rfl) rfl (by show 2 * 0 + _ ≤ _; exact Nat.le_of_eq rfl) (hb hby d1_1) (fun _ _ => ⟨rfl, e0, (by decide : 0 + 0 ≤ _), (by decide : 0 + 0 ≤ _)⟩)
  dsimp only [Pt.U, Pt.locs, Pt.cells, Pt.slots] at X101 l101 y101 z101 st101 hQ101
  subst l101 y101 z101
  obtain ⟨rfl, N101q, hh101⟩ := hQ101
  have e101 : T101.heap = h0 := hh101
  have N101 := Fr.app N0 N101q
  obtain ⟨fs, hr, hrun, hended, hW, hsame⟩ := X101.leave (v := some (.int (0 : Int32))) (fun h => by rw [Bd.returns] at h; cases h)
  refine ⟨_, _, pre0 _ ?_, hrun, hended, _, _, rfl, ?_, ⟨_, rfl⟩, hW, hsame.mono (by decide) (by decide)⟩
  · show Steps p.tables e below (s₁.setTop (mkF m 0 #[.val (.ref a1), .val (.int p2)] [])) _
    refine XS.aloadN X0.here hx rfl (hb hby d1_0) rfl rfl ?_
    show Steps p.tables e below (s₁.setTop (mkF m 1 #[.val (.ref a1), .val (.int p2)] [(.ref a1)])) _
    refine st101.trans ?_
    show Steps p.tables e below (T101.setTop (mkF m 4 #[.val (.ref a1), .val (.int p2)] [(.int (3 : Int32))])) _
    refine XS.tswIn X101.here hx rfl (pc0 := 4) (pc' := 90) rfl (hb hby d1_4) rfl (o := 86) (by decide) (by decide) (by decide) (by decide) ?_
    show Steps p.tables e below (T101.setTop (mkF m 90 #[.val (.ref a1), .val (.int p2)] [])) _
    refine XS.iloadN X101.here hx rfl (hb hby d1_90) rfl ?_
    show Steps p.tables e below (T101.setTop (mkF m 91 #[.val (.ref a1), .val (.int p2)] [(.int p2)])) _
    refine XS.ifYes X101.here hx rfl (pc0 := 91) (pc' := 98) rfl (hb hby d1_91) rfl ((if0 _ _).trans (flt hc91).2.2.2) (by decide) (by decide) ?_
    show Steps p.tables e below (T101.setTop (mkF m 98 #[.val (.ref a1), .val (.int p2)] [])) _
    refine XS.iconst X101.here hx rfl (hb hby d1_98) ?_
    show Steps p.tables e below (T101.setTop (mkF m 99 #[.val (.ref a1), .val (.int p2)] [(.int (0 : Int32))])) _
    refine XS.goto X101.here hx rfl (pc0 := 99) (pc' := 123) rfl (hb hby d1_99) (by decide) (by decide) ?_
    show Steps p.tables e below (T101.setTop (mkF m 123 #[.val (.ref a1), .val (.int p2)] [(.int (0 : Int32))])) _
    exact retN X101 hx (t := .boolean) Bd.returns (by simp) (hb hby d1_123) hr
  · show QP (.int (0 : Int32)) h0 n0 _ T101.heap _
    rw [e101]
    exact ⟨rfl, N101, rfl⟩
theorem d1_94 : decode prog_73_method_5_code 94 = .ok (.iconst 1, 1) := by decide +kernel
theorem d1_95 : decode prog_73_method_5_code 95 = .ok (.goto 28, 3) := by decide +kernel
set_option maxRecDepth 65536 in
set_option maxHeartbeats 40000000 in
theorem rm1_3f (l : Launch) (Z : State) (a0 : Array Value) (hw : ∀ d ∈ tables_1, d.before a0 Z = true) (ws : List Jvm.Cond) (a1 : Addr) (p2 : Int32) (h0 : Heap) (n0 : Nat) (O0 : Old Z n0 h0) (F_o : Fld Z Z.heap a1 "java/lang/Enum" "ordinal" "I" (.int 3)) (E : Exa Z Z.heap a1 "com/example/plugroot/plugroot/sql/Comparison") (hc91 : (0 : Int32) < p2) :
    MetFree l (⟨"com/example/plugroot/plugroot/sql/Comparison", "holds", "(I)Z"⟩ : MethodName) (head1 (Jvm.Cond.code (⟨"com/example/plugroot/plugroot/sql/Comparison", "holds", "(I)Z"⟩ : MethodName) prog_73_method_5_code 2 (some .boolean) :: ws) ({ frames := 1, cells := 0, slots := 0, locals := 12 } : Room)) (fun a_ U => a_ = #[(.ref a1), (.int p2)] ∧ Z.Warmed39 U.vm ∧ U.heap = h0) (fun _ _ _ _ _ => True) (fun _ U o U' => ∃ v L, o = .returned v ∧ QP (.int (1 : Int32)) h0 n0 v U'.heap L ∧ FrameEnd U o U' L ({ frames := 1, cells := 0, slots := 0, locals := 12 } : Room).cells ({ frames := 1, cells := 0, slots := 0, locals := 12 } : Room).slots) := by
  refine MetFree.of_bodySF (plainFor_of_name pn_1) hisR ?_
  intro p e s m args below meth c s₁ Bd hml0 hP hK
  obtain ⟨rfl, hZ, hh⟩ := hP
  have hx := Bd.exec
  have hby := Bd.bytes
  have hml : c.maxLocals = 2 := hml0
  have hown : s.vm.findClass "com/example/plugroot/plugroot/sql/Comparison" = some m.cls := findClass_of_methodNamed Bd.named
  have hnm := (name_of_methodNamed Bd.named Bd.method).1
  have X0 : Stand p l e ({ frames := 1, cells := 0, slots := 0, locals := 12 } : Room) s m #[(.ref a1), (.int p2)] below meth c s₁ [] 0 0 := Stand.of_body Bd
  have e0 : s₁.heap = h0 := by rw [← hh, Bd.state]; rfl
  have N0 := Fr.nil n0
  have pre0 : ∀ tg, Steps p.tables e below (s₁.setTop (mkF m 0 #[.val (.ref a1), .val (.int p2)] [])) tg → Steps p.tables e below (s₁.setTop (entryFrame m #[(.ref a1), (.int p2)] 2)) tg := fun tg kq => castTop (ef_RI_2 m a1 p2) kq
  obtain ⟨cq101, kq101, q101a, q101b, q101c⟩ := isOf hZ e0 (E.ext O0.2)
  obtain ⟨_, _, ⟨T101, L101, k101, n101⟩, -, X101, ⟨Lc101, hQ101, l101, y101, z101⟩, st101⟩ := X0.virtualBackUp hx (x := (⟨"com/example/plugroot/plugroot/sql/Comparison", "ordinal", "()I"⟩ : MethodName)) (y := (⟨"java/lang/Enum", "ordinal", "()I"⟩ : MethodName)) hown (mvT hZ (wi hw 9 rfl)) (mvT hZ (wi hw 10 rfl)) (mvT hZ (wi hw 11 rfl)) (by decide) (mvT hZ (wi hw 13 rfl)) (mvT hZ (wi hw 12 rfl)) (backOf (W := 0) (rm2 l Z a0 hw [] a1 3 h0 n0 O0 F_o) hZ (wi hw 15 rfl) (wi hw 14 rfl) (by decide) (by decide)) q101a q101c (g := (mkF m 1 #[.val (.ref a1), .val (.int p2)] [(.ref a1)])) rfl (by rw [hml]; rfl) (Steps.refl _) (argsL := []) (rest := []) (lenOf pd_0 rfl) rfl (by show 2 * 0 + _ ≤ _; exact Nat.le_of_eq rfl) (hb hby d1_1) (fun _ _ => ⟨rfl, e0, (by decide : 0 + 0 ≤ _), (by decide : 0 + 0 ≤ _)⟩)
  dsimp only [Pt.U, Pt.locs, Pt.cells, Pt.slots] at X101 l101 y101 z101 st101 hQ101
  subst l101 y101 z101
  obtain ⟨rfl, N101q, hh101⟩ := hQ101
  have e101 : T101.heap = h0 := hh101
  have N101 := Fr.app N0 N101q
  obtain ⟨fs, hr, hrun, hended, hW, hsame⟩ := X101.leave (v := some (.int (1 : Int32))) (fun h => by rw [Bd.returns] at h; cases h)
  refine ⟨_, _, pre0 _ ?_, hrun, hended, _, _, rfl, ?_, ⟨_, rfl⟩, hW, hsame.mono (by decide) (by decide)⟩
  · show Steps p.tables e below (s₁.setTop (mkF m 0 #[.val (.ref a1), .val (.int p2)] [])) _
    refine XS.aloadN X0.here hx rfl (hb hby d1_0) rfl rfl ?_
    show Steps p.tables e below (s₁.setTop (mkF m 1 #[.val (.ref a1), .val (.int p2)] [(.ref a1)])) _
    refine st101.trans ?_
    show Steps p.tables e below (T101.setTop (mkF m 4 #[.val (.ref a1), .val (.int p2)] [(.int (3 : Int32))])) _
    refine XS.tswIn X101.here hx rfl (pc0 := 4) (pc' := 90) rfl (hb hby d1_4) rfl (o := 86) (by decide) (by decide) (by decide) (by decide) ?_
    show Steps p.tables e below (T101.setTop (mkF m 90 #[.val (.ref a1), .val (.int p2)] [])) _
    refine XS.iloadN X101.here hx rfl (hb hby d1_90) rfl ?_
    show Steps p.tables e below (T101.setTop (mkF m 91 #[.val (.ref a1), .val (.int p2)] [(.int p2)])) _
    refine XS.ifNo X101.here hx rfl (hb hby d1_91) rfl ((if0 _ _).trans (tlt hc91).2.2.2) ?_
    show Steps p.tables e below (T101.setTop (mkF m 94 #[.val (.ref a1), .val (.int p2)] [])) _
    refine XS.iconst X101.here hx rfl (hb hby d1_94) ?_
    show Steps p.tables e below (T101.setTop (mkF m 95 #[.val (.ref a1), .val (.int p2)] [(.int (1 : Int32))])) _
    refine XS.goto X101.here hx rfl (pc0 := 95) (pc' := 123) rfl (hb hby d1_95) (by decide) (by decide) ?_
    show Steps p.tables e below (T101.setTop (mkF m 123 #[.val (.ref a1), .val (.int p2)] [(.int (1 : Int32))])) _
    exact retN X101 hx (t := .boolean) Bd.returns (by simp) (hb hby d1_123) hr
  · show QP (.int (1 : Int32)) h0 n0 _ T101.heap _
    rw [e101]
    exact ⟨rfl, N101, rfl⟩
theorem d1_102 : decode prog_73_method_5_code 102 = .ok (.iload_n 1, 1) := by decide +kernel
theorem d1_103 : decode prog_73_method_5_code 103 = .ok (.ifCond .gt 7, 3) := by decide +kernel
theorem d1_110 : decode prog_73_method_5_code 110 = .ok (.iconst 0, 1) := by decide +kernel
theorem d1_111 : decode prog_73_method_5_code 111 = .ok (.goto 12, 3) := by decide +kernel
set_option maxRecDepth 65536 in
set_option maxHeartbeats 40000000 in
theorem rm1_4t (l : Launch) (Z : State) (a0 : Array Value) (hw : ∀ d ∈ tables_1, d.before a0 Z = true) (ws : List Jvm.Cond) (a1 : Addr) (p2 : Int32) (h0 : Heap) (n0 : Nat) (O0 : Old Z n0 h0) (F_o : Fld Z Z.heap a1 "java/lang/Enum" "ordinal" "I" (.int 4)) (E : Exa Z Z.heap a1 "com/example/plugroot/plugroot/sql/Comparison") (hc103 : (0 : Int32) < p2) :
    MetFree l (⟨"com/example/plugroot/plugroot/sql/Comparison", "holds", "(I)Z"⟩ : MethodName) (head1 (Jvm.Cond.code (⟨"com/example/plugroot/plugroot/sql/Comparison", "holds", "(I)Z"⟩ : MethodName) prog_73_method_5_code 2 (some .boolean) :: ws) ({ frames := 1, cells := 0, slots := 0, locals := 12 } : Room)) (fun a_ U => a_ = #[(.ref a1), (.int p2)] ∧ Z.Warmed39 U.vm ∧ U.heap = h0) (fun _ _ _ _ _ => True) (fun _ U o U' => ∃ v L, o = .returned v ∧ QP (.int (0 : Int32)) h0 n0 v U'.heap L ∧ FrameEnd U o U' L ({ frames := 1, cells := 0, slots := 0, locals := 12 } : Room).cells ({ frames := 1, cells := 0, slots := 0, locals := 12 } : Room).slots) := by
  refine MetFree.of_bodySF (plainFor_of_name pn_1) hisR ?_
  intro p e s m args below meth c s₁ Bd hml0 hP hK
  obtain ⟨rfl, hZ, hh⟩ := hP
  have hx := Bd.exec
  have hby := Bd.bytes
  have hml : c.maxLocals = 2 := hml0
  have hown : s.vm.findClass "com/example/plugroot/plugroot/sql/Comparison" = some m.cls := findClass_of_methodNamed Bd.named
  have hnm := (name_of_methodNamed Bd.named Bd.method).1
  have X0 : Stand p l e ({ frames := 1, cells := 0, slots := 0, locals := 12 } : Room) s m #[(.ref a1), (.int p2)] below meth c s₁ [] 0 0 := Stand.of_body Bd
  have e0 : s₁.heap = h0 := by rw [← hh, Bd.state]; rfl
  have N0 := Fr.nil n0
  have pre0 : ∀ tg, Steps p.tables e below (s₁.setTop (mkF m 0 #[.val (.ref a1), .val (.int p2)] [])) tg → Steps p.tables e below (s₁.setTop (entryFrame m #[(.ref a1), (.int p2)] 2)) tg := fun tg kq => castTop (ef_RI_2 m a1 p2) kq
  obtain ⟨cq101, kq101, q101a, q101b, q101c⟩ := isOf hZ e0 (E.ext O0.2)
  obtain ⟨_, _, ⟨T101, L101, k101, n101⟩, -, X101, ⟨Lc101, hQ101, l101, y101, z101⟩, st101⟩ := X0.virtualBackUp hx (x := (⟨"com/example/plugroot/plugroot/sql/Comparison", "ordinal", "()I"⟩ : MethodName)) (y := (⟨"java/lang/Enum", "ordinal", "()I"⟩ : MethodName)) hown (mvT hZ (wi hw 9 rfl)) (mvT hZ (wi hw 10 rfl)) (mvT hZ (wi hw 11 rfl)) (by decide) (mvT hZ (wi hw 13 rfl)) (mvT hZ (wi hw 12 rfl)) (backOf (W := 0) (rm2 l Z a0 hw [] a1 4 h0 n0 O0 F_o) hZ (wi hw 15 rfl) (wi hw 14 rfl) (by decide) (by decide)) q101a q101c (g := (mkF m 1 #[.val (.ref a1), .val (.int p2)] [(.ref a1)])) rfl (by rw [hml]; rfl) (Steps.refl _) (argsL := []) (rest := []) (lenOf pd_0 rfl) rfl (by show 2 * 0 + _ ≤ _; exact Nat.le_of_eq rfl) (hb hby d1_1) (fun _ _ => ⟨rfl, e0, (by decide : 0 + 0 ≤ _), (by decide : 0 + 0 ≤ _)⟩)
  dsimp only [Pt.U, Pt.locs, Pt.cells, Pt.slots] at X101 l101 y101 z101 st101 hQ101
  subst l101 y101 z101
  obtain ⟨rfl, N101q, hh101⟩ := hQ101
  have e101 : T101.heap = h0 := hh101
  have N101 := Fr.app N0 N101q
  obtain ⟨fs, hr, hrun, hended, hW, hsame⟩ := X101.leave (v := some (.int (0 : Int32))) (fun h => by rw [Bd.returns] at h; cases h)
  refine ⟨_, _, pre0 _ ?_, hrun, hended, _, _, rfl, ?_, ⟨_, rfl⟩, hW, hsame.mono (by decide) (by decide)⟩
  · show Steps p.tables e below (s₁.setTop (mkF m 0 #[.val (.ref a1), .val (.int p2)] [])) _
    refine XS.aloadN X0.here hx rfl (hb hby d1_0) rfl rfl ?_
    show Steps p.tables e below (s₁.setTop (mkF m 1 #[.val (.ref a1), .val (.int p2)] [(.ref a1)])) _
    refine st101.trans ?_
    show Steps p.tables e below (T101.setTop (mkF m 4 #[.val (.ref a1), .val (.int p2)] [(.int (4 : Int32))])) _
    refine XS.tswIn X101.here hx rfl (pc0 := 4) (pc' := 102) rfl (hb hby d1_4) rfl (o := 98) (by decide) (by decide) (by decide) (by decide) ?_
    show Steps p.tables e below (T101.setTop (mkF m 102 #[.val (.ref a1), .val (.int p2)] [])) _
    refine XS.iloadN X101.here hx rfl (hb hby d1_102) rfl ?_
    show Steps p.tables e below (T101.setTop (mkF m 103 #[.val (.ref a1), .val (.int p2)] [(.int p2)])) _
    refine XS.ifYes X101.here hx rfl (pc0 := 103) (pc' := 110) rfl (hb hby d1_103) rfl ((if0 _ _).trans (tlt hc103).2.2.1) (by decide) (by decide) ?_
    show Steps p.tables e below (T101.setTop (mkF m 110 #[.val (.ref a1), .val (.int p2)] [])) _
    refine XS.iconst X101.here hx rfl (hb hby d1_110) ?_
    show Steps p.tables e below (T101.setTop (mkF m 111 #[.val (.ref a1), .val (.int p2)] [(.int (0 : Int32))])) _
    refine XS.goto X101.here hx rfl (pc0 := 111) (pc' := 123) rfl (hb hby d1_111) (by decide) (by decide) ?_
    show Steps p.tables e below (T101.setTop (mkF m 123 #[.val (.ref a1), .val (.int p2)] [(.int (0 : Int32))])) _
    exact retN X101 hx (t := .boolean) Bd.returns (by simp) (hb hby d1_123) hr
  · show QP (.int (0 : Int32)) h0 n0 _ T101.heap _
    rw [e101]
    exact ⟨rfl, N101, rfl⟩
theorem d1_106 : decode prog_73_method_5_code 106 = .ok (.iconst 1, 1) := by decide +kernel
theorem d1_107 : decode prog_73_method_5_code 107 = .ok (.goto 16, 3) := by decide +kernel
set_option maxRecDepth 65536 in
set_option maxHeartbeats 40000000 in
theorem rm1_4f (l : Launch) (Z : State) (a0 : Array Value) (hw : ∀ d ∈ tables_1, d.before a0 Z = true) (ws : List Jvm.Cond) (a1 : Addr) (p2 : Int32) (h0 : Heap) (n0 : Nat) (O0 : Old Z n0 h0) (F_o : Fld Z Z.heap a1 "java/lang/Enum" "ordinal" "I" (.int 4)) (E : Exa Z Z.heap a1 "com/example/plugroot/plugroot/sql/Comparison") (hc103 : ¬ ((0 : Int32) < p2)) :
    MetFree l (⟨"com/example/plugroot/plugroot/sql/Comparison", "holds", "(I)Z"⟩ : MethodName) (head1 (Jvm.Cond.code (⟨"com/example/plugroot/plugroot/sql/Comparison", "holds", "(I)Z"⟩ : MethodName) prog_73_method_5_code 2 (some .boolean) :: ws) ({ frames := 1, cells := 0, slots := 0, locals := 12 } : Room)) (fun a_ U => a_ = #[(.ref a1), (.int p2)] ∧ Z.Warmed39 U.vm ∧ U.heap = h0) (fun _ _ _ _ _ => True) (fun _ U o U' => ∃ v L, o = .returned v ∧ QP (.int (1 : Int32)) h0 n0 v U'.heap L ∧ FrameEnd U o U' L ({ frames := 1, cells := 0, slots := 0, locals := 12 } : Room).cells ({ frames := 1, cells := 0, slots := 0, locals := 12 } : Room).slots) := by
  refine MetFree.of_bodySF (plainFor_of_name pn_1) hisR ?_
  intro p e s m args below meth c s₁ Bd hml0 hP hK
  obtain ⟨rfl, hZ, hh⟩ := hP
  have hx := Bd.exec
  have hby := Bd.bytes
  have hml : c.maxLocals = 2 := hml0
  have hown : s.vm.findClass "com/example/plugroot/plugroot/sql/Comparison" = some m.cls := findClass_of_methodNamed Bd.named
  have hnm := (name_of_methodNamed Bd.named Bd.method).1
  have X0 : Stand p l e ({ frames := 1, cells := 0, slots := 0, locals := 12 } : Room) s m #[(.ref a1), (.int p2)] below meth c s₁ [] 0 0 := Stand.of_body Bd
  have e0 : s₁.heap = h0 := by rw [← hh, Bd.state]; rfl
  have N0 := Fr.nil n0
  have pre0 : ∀ tg, Steps p.tables e below (s₁.setTop (mkF m 0 #[.val (.ref a1), .val (.int p2)] [])) tg → Steps p.tables e below (s₁.setTop (entryFrame m #[(.ref a1), (.int p2)] 2)) tg := fun tg kq => castTop (ef_RI_2 m a1 p2) kq
  obtain ⟨cq101, kq101, q101a, q101b, q101c⟩ := isOf hZ e0 (E.ext O0.2)
  obtain ⟨_, _, ⟨T101, L101, k101, n101⟩, -, X101, ⟨Lc101, hQ101, l101, y101, z101⟩, st101⟩ := X0.virtualBackUp hx (x := (⟨"com/example/plugroot/plugroot/sql/Comparison", "ordinal", "()I"⟩ : MethodName)) (y := (⟨"java/lang/Enum", "ordinal", "()I"⟩ : MethodName)) hown (mvT hZ (wi hw 9 rfl)) (mvT hZ (wi hw 10 rfl)) (mvT hZ (wi hw 11 rfl)) (by decide) (mvT hZ (wi hw 13 rfl)) (mvT hZ (wi hw 12 rfl)) (backOf (W := 0) (rm2 l Z a0 hw [] a1 4 h0 n0 O0 F_o) hZ (wi hw 15 rfl) (wi hw 14 rfl) (by decide) (by decide)) q101a q101c (g := (mkF m 1 #[.val (.ref a1), .val (.int p2)] [(.ref a1)])) rfl (by rw [hml]; rfl) (Steps.refl _) (argsL := []) (rest := []) (lenOf pd_0 rfl) rfl (by show 2 * 0 + _ ≤ _; exact Nat.le_of_eq rfl) (hb hby d1_1) (fun _ _ => ⟨rfl, e0, (by decide : 0 + 0 ≤ _), (by decide : 0 + 0 ≤ _)⟩)
  dsimp only [Pt.U, Pt.locs, Pt.cells, Pt.slots] at X101 l101 y101 z101 st101 hQ101
  subst l101 y101 z101
  obtain ⟨rfl, N101q, hh101⟩ := hQ101
  have e101 : T101.heap = h0 := hh101
  have N101 := Fr.app N0 N101q
  obtain ⟨fs, hr, hrun, hended, hW, hsame⟩ := X101.leave (v := some (.int (1 : Int32))) (fun h => by rw [Bd.returns] at h; cases h)
  refine ⟨_, _, pre0 _ ?_, hrun, hended, _, _, rfl, ?_, ⟨_, rfl⟩, hW, hsame.mono (by decide) (by decide)⟩
  · show Steps p.tables e below (s₁.setTop (mkF m 0 #[.val (.ref a1), .val (.int p2)] [])) _
    refine XS.aloadN X0.here hx rfl (hb hby d1_0) rfl rfl ?_
    show Steps p.tables e below (s₁.setTop (mkF m 1 #[.val (.ref a1), .val (.int p2)] [(.ref a1)])) _
    refine st101.trans ?_
    show Steps p.tables e below (T101.setTop (mkF m 4 #[.val (.ref a1), .val (.int p2)] [(.int (4 : Int32))])) _
    refine XS.tswIn X101.here hx rfl (pc0 := 4) (pc' := 102) rfl (hb hby d1_4) rfl (o := 98) (by decide) (by decide) (by decide) (by decide) ?_
    show Steps p.tables e below (T101.setTop (mkF m 102 #[.val (.ref a1), .val (.int p2)] [])) _
    refine XS.iloadN X101.here hx rfl (hb hby d1_102) rfl ?_
    show Steps p.tables e below (T101.setTop (mkF m 103 #[.val (.ref a1), .val (.int p2)] [(.int p2)])) _
    refine XS.ifNo X101.here hx rfl (hb hby d1_103) rfl ((if0 _ _).trans (flt hc103).2.2.1) ?_
    show Steps p.tables e below (T101.setTop (mkF m 106 #[.val (.ref a1), .val (.int p2)] [])) _
    refine XS.iconst X101.here hx rfl (hb hby d1_106) ?_
    show Steps p.tables e below (T101.setTop (mkF m 107 #[.val (.ref a1), .val (.int p2)] [(.int (1 : Int32))])) _
    refine XS.goto X101.here hx rfl (pc0 := 107) (pc' := 123) rfl (hb hby d1_107) (by decide) (by decide) ?_
    show Steps p.tables e below (T101.setTop (mkF m 123 #[.val (.ref a1), .val (.int p2)] [(.int (1 : Int32))])) _
    exact retN X101 hx (t := .boolean) Bd.returns (by simp) (hb hby d1_123) hr
  · show QP (.int (1 : Int32)) h0 n0 _ T101.heap _
    rw [e101]
    exact ⟨rfl, N101, rfl⟩
theorem d1_114 : decode prog_73_method_5_code 114 = .ok (.iload_n 1, 1) := by decide +kernel
theorem d1_115 : decode prog_73_method_5_code 115 = .ok (.ifCond .lt 7, 3) := by decide +kernel
theorem d1_122 : decode prog_73_method_5_code 122 = .ok (.iconst 0, 1) := by decide +kernel
set_option maxRecDepth 65536 in
set_option maxHeartbeats 40000000 in
theorem rm1_5t (l : Launch) (Z : State) (a0 : Array Value) (hw : ∀ d ∈ tables_1, d.before a0 Z = true) (ws : List Jvm.Cond) (a1 : Addr) (p2 : Int32) (h0 : Heap) (n0 : Nat) (O0 : Old Z n0 h0) (F_o : Fld Z Z.heap a1 "java/lang/Enum" "ordinal" "I" (.int 5)) (E : Exa Z Z.heap a1 "com/example/plugroot/plugroot/sql/Comparison") (hc115 : p2 < (0 : Int32)) :
    MetFree l (⟨"com/example/plugroot/plugroot/sql/Comparison", "holds", "(I)Z"⟩ : MethodName) (head1 (Jvm.Cond.code (⟨"com/example/plugroot/plugroot/sql/Comparison", "holds", "(I)Z"⟩ : MethodName) prog_73_method_5_code 2 (some .boolean) :: ws) ({ frames := 1, cells := 0, slots := 0, locals := 12 } : Room)) (fun a_ U => a_ = #[(.ref a1), (.int p2)] ∧ Z.Warmed39 U.vm ∧ U.heap = h0) (fun _ _ _ _ _ => True) (fun _ U o U' => ∃ v L, o = .returned v ∧ QP (.int (0 : Int32)) h0 n0 v U'.heap L ∧ FrameEnd U o U' L ({ frames := 1, cells := 0, slots := 0, locals := 12 } : Room).cells ({ frames := 1, cells := 0, slots := 0, locals := 12 } : Room).slots) := by
  refine MetFree.of_bodySF (plainFor_of_name pn_1) hisR ?_
  intro p e s m args below meth c s₁ Bd hml0 hP hK
  obtain ⟨rfl, hZ, hh⟩ := hP
  have hx := Bd.exec
  have hby := Bd.bytes
  have hml : c.maxLocals = 2 := hml0
  have hown : s.vm.findClass "com/example/plugroot/plugroot/sql/Comparison" = some m.cls := findClass_of_methodNamed Bd.named
  have hnm := (name_of_methodNamed Bd.named Bd.method).1
  have X0 : Stand p l e ({ frames := 1, cells := 0, slots := 0, locals := 12 } : Room) s m #[(.ref a1), (.int p2)] below meth c s₁ [] 0 0 := Stand.of_body Bd
  have e0 : s₁.heap = h0 := by rw [← hh, Bd.state]; rfl
  have N0 := Fr.nil n0
  have pre0 : ∀ tg, Steps p.tables e below (s₁.setTop (mkF m 0 #[.val (.ref a1), .val (.int p2)] [])) tg → Steps p.tables e below (s₁.setTop (entryFrame m #[(.ref a1), (.int p2)] 2)) tg := fun tg kq => castTop (ef_RI_2 m a1 p2) kq
  obtain ⟨cq101, kq101, q101a, q101b, q101c⟩ := isOf hZ e0 (E.ext O0.2)
  obtain ⟨_, _, ⟨T101, L101, k101, n101⟩, -, X101, ⟨Lc101, hQ101, l101, y101, z101⟩, st101⟩ := X0.virtualBackUp hx (x := (⟨"com/example/plugroot/plugroot/sql/Comparison", "ordinal", "()I"⟩ : MethodName)) (y := (⟨"java/lang/Enum", "ordinal", "()I"⟩ : MethodName)) hown (mvT hZ (wi hw 9 rfl)) (mvT hZ (wi hw 10 rfl)) (mvT hZ (wi hw 11 rfl)) (by decide) (mvT hZ (wi hw 13 rfl)) (mvT hZ (wi hw 12 rfl)) (backOf (W := 0) (rm2 l Z a0 hw [] a1 5 h0 n0 O0 F_o) hZ (wi hw 15 rfl) (wi hw 14 rfl) (by decide) (by decide)) q101a q101c (g := (mkF m 1 #[.val (.ref a1), .val (.int p2)] [(.ref a1)])) rfl (by rw [hml]; rfl) (Steps.refl _) (argsL := []) (rest := []) (lenOf pd_0 rfl) rfl (by show 2 * 0 + _ ≤ _; exact Nat.le_of_eq rfl) (hb hby d1_1) (fun _ _ => ⟨rfl, e0, (by decide : 0 + 0 ≤ _), (by decide : 0 + 0 ≤ _)⟩)
  dsimp only [Pt.U, Pt.locs, Pt.cells, Pt.slots] at X101 l101 y101 z101 st101 hQ101
  subst l101 y101 z101
  obtain ⟨rfl, N101q, hh101⟩ := hQ101
  have e101 : T101.heap = h0 := hh101
  have N101 := Fr.app N0 N101q
  obtain ⟨fs, hr, hrun, hended, hW, hsame⟩ := X101.leave (v := some (.int (0 : Int32))) (fun h => by rw [Bd.returns] at h; cases h)
  refine ⟨_, _, pre0 _ ?_, hrun, hended, _, _, rfl, ?_, ⟨_, rfl⟩, hW, hsame.mono (by decide) (by decide)⟩
  · show Steps p.tables e below (s₁.setTop (mkF m 0 #[.val (.ref a1), .val (.int p2)] [])) _
    refine XS.aloadN X0.here hx rfl (hb hby d1_0) rfl rfl ?_
    show Steps p.tables e below (s₁.setTop (mkF m 1 #[.val (.ref a1), .val (.int p2)] [(.ref a1)])) _
    refine st101.trans ?_
    show Steps p.tables e below (T101.setTop (mkF m 4 #[.val (.ref a1), .val (.int p2)] [(.int (5 : Int32))])) _
    refine XS.tswIn X101.here hx rfl (pc0 := 4) (pc' := 114) rfl (hb hby d1_4) rfl (o := 110) (by decide) (by decide) (by decide) (by decide) ?_
    show Steps p.tables e below (T101.setTop (mkF m 114 #[.val (.ref a1), .val (.int p2)] [])) _
    refine XS.iloadN X101.here hx rfl (hb hby d1_114) rfl ?_
    show Steps p.tables e below (T101.setTop (mkF m 115 #[.val (.ref a1), .val (.int p2)] [(.int p2)])) _
    refine XS.ifYes X101.here hx rfl (pc0 := 115) (pc' := 122) rfl (hb hby d1_115) rfl ((if0 _ _).trans (tlt hc115).1) (by decide) (by decide) ?_
    show Steps p.tables e below (T101.setTop (mkF m 122 #[.val (.ref a1), .val (.int p2)] [])) _
    refine XS.iconst X101.here hx rfl (hb hby d1_122) ?_
    show Steps p.tables e below (T101.setTop (mkF m 123 #[.val (.ref a1), .val (.int p2)] [(.int (0 : Int32))])) _
    exact retN X101 hx (t := .boolean) Bd.returns (by simp) (hb hby d1_123) hr
  · show QP (.int (0 : Int32)) h0 n0 _ T101.heap _
    rw [e101]
    exact ⟨rfl, N101, rfl⟩
theorem d1_118 : decode prog_73_method_5_code 118 = .ok (.iconst 1, 1) := by decide +kernel
theorem d1_119 : decode prog_73_method_5_code 119 = .ok (.goto 4, 3) := by decide +kernel
set_option maxRecDepth 65536 in
set_option maxHeartbeats 40000000 in
theorem rm1_5f (l : Launch) (Z : State) (a0 : Array Value) (hw : ∀ d ∈ tables_1, d.before a0 Z = true) (ws : List Jvm.Cond) (a1 : Addr) (p2 : Int32) (h0 : Heap) (n0 : Nat) (O0 : Old Z n0 h0) (F_o : Fld Z Z.heap a1 "java/lang/Enum" "ordinal" "I" (.int 5)) (E : Exa Z Z.heap a1 "com/example/plugroot/plugroot/sql/Comparison") (hc115 : ¬ (p2 < (0 : Int32))) :
    MetFree l (⟨"com/example/plugroot/plugroot/sql/Comparison", "holds", "(I)Z"⟩ : MethodName) (head1 (Jvm.Cond.code (⟨"com/example/plugroot/plugroot/sql/Comparison", "holds", "(I)Z"⟩ : MethodName) prog_73_method_5_code 2 (some .boolean) :: ws) ({ frames := 1, cells := 0, slots := 0, locals := 12 } : Room)) (fun a_ U => a_ = #[(.ref a1), (.int p2)] ∧ Z.Warmed39 U.vm ∧ U.heap = h0) (fun _ _ _ _ _ => True) (fun _ U o U' => ∃ v L, o = .returned v ∧ QP (.int (1 : Int32)) h0 n0 v U'.heap L ∧ FrameEnd U o U' L ({ frames := 1, cells := 0, slots := 0, locals := 12 } : Room).cells ({ frames := 1, cells := 0, slots := 0, locals := 12 } : Room).slots) := by
  refine MetFree.of_bodySF (plainFor_of_name pn_1) hisR ?_
  intro p e s m args below meth c s₁ Bd hml0 hP hK
  obtain ⟨rfl, hZ, hh⟩ := hP
  have hx := Bd.exec
  have hby := Bd.bytes
  have hml : c.maxLocals = 2 := hml0
  have hown : s.vm.findClass "com/example/plugroot/plugroot/sql/Comparison" = some m.cls := findClass_of_methodNamed Bd.named
  have hnm := (name_of_methodNamed Bd.named Bd.method).1
  have X0 : Stand p l e ({ frames := 1, cells := 0, slots := 0, locals := 12 } : Room) s m #[(.ref a1), (.int p2)] below meth c s₁ [] 0 0 := Stand.of_body Bd
  have e0 : s₁.heap = h0 := by rw [← hh, Bd.state]; rfl
  have N0 := Fr.nil n0
  have pre0 : ∀ tg, Steps p.tables e below (s₁.setTop (mkF m 0 #[.val (.ref a1), .val (.int p2)] [])) tg → Steps p.tables e below (s₁.setTop (entryFrame m #[(.ref a1), (.int p2)] 2)) tg := fun tg kq => castTop (ef_RI_2 m a1 p2) kq
  obtain ⟨cq101, kq101, q101a, q101b, q101c⟩ := isOf hZ e0 (E.ext O0.2)
  obtain ⟨_, _, ⟨T101, L101, k101, n101⟩, -, X101, ⟨Lc101, hQ101, l101, y101, z101⟩, st101⟩ := X0.virtualBackUp hx (x := (⟨"com/example/plugroot/plugroot/sql/Comparison", "ordinal", "()I"⟩ : MethodName)) (y := (⟨"java/lang/Enum", "ordinal", "()I"⟩ : MethodName)) hown (mvT hZ (wi hw 9 rfl)) (mvT hZ (wi hw 10 rfl)) (mvT hZ (wi hw 11 rfl)) (by decide) (mvT hZ (wi hw 13 rfl)) (mvT hZ (wi hw 12 rfl)) (backOf (W := 0) (rm2 l Z a0 hw [] a1 5 h0 n0 O0 F_o) hZ (wi hw 15 rfl) (wi hw 14 rfl) (by decide) (by decide)) q101a q101c (g := (mkF m 1 #[.val (.ref a1), .val (.int p2)] [(.ref a1)])) rfl (by rw [hml]; rfl) (Steps.refl _) (argsL := []) (rest := []) (lenOf pd_0 rfl) rfl (by show 2 * 0 + _ ≤ _; exact Nat.le_of_eq rfl) (hb hby d1_1) (fun _ _ => ⟨rfl, e0, (by decide : 0 + 0 ≤ _), (by decide : 0 + 0 ≤ _)⟩)
  dsimp only [Pt.U, Pt.locs, Pt.cells, Pt.slots] at X101 l101 y101 z101 st101 hQ101
  subst l101 y101 z101
  obtain ⟨rfl, N101q, hh101⟩ := hQ101
  have e101 : T101.heap = h0 := hh101
  have N101 := Fr.app N0 N101q
  obtain ⟨fs, hr, hrun, hended, hW, hsame⟩ := X101.leave (v := some (.int (1 : Int32))) (fun h => by rw [Bd.returns] at h; cases h)
  refine ⟨_, _, pre0 _ ?_, hrun, hended, _, _, rfl, ?_, ⟨_, rfl⟩, hW, hsame.mono (by decide) (by decide)⟩
  · show Steps p.tables e below (s₁.setTop (mkF m 0 #[.val (.ref a1), .val (.int p2)] [])) _
    refine XS.aloadN X0.here hx rfl (hb hby d1_0) rfl rfl ?_
    show Steps p.tables e below (s₁.setTop (mkF m 1 #[.val (.ref a1), .val (.int p2)] [(.ref a1)])) _
    refine st101.trans ?_
    show Steps p.tables e below (T101.setTop (mkF m 4 #[.val (.ref a1), .val (.int p2)] [(.int (5 : Int32))])) _
    refine XS.tswIn X101.here hx rfl (pc0 := 4) (pc' := 114) rfl (hb hby d1_4) rfl (o := 110) (by decide) (by decide) (by decide) (by decide) ?_
    show Steps p.tables e below (T101.setTop (mkF m 114 #[.val (.ref a1), .val (.int p2)] [])) _
    refine XS.iloadN X101.here hx rfl (hb hby d1_114) rfl ?_
    show Steps p.tables e below (T101.setTop (mkF m 115 #[.val (.ref a1), .val (.int p2)] [(.int p2)])) _
    refine XS.ifNo X101.here hx rfl (hb hby d1_115) rfl ((if0 _ _).trans (flt hc115).1) ?_
    show Steps p.tables e below (T101.setTop (mkF m 118 #[.val (.ref a1), .val (.int p2)] [])) _
    refine XS.iconst X101.here hx rfl (hb hby d1_118) ?_
    show Steps p.tables e below (T101.setTop (mkF m 119 #[.val (.ref a1), .val (.int p2)] [(.int (1 : Int32))])) _
    refine XS.goto X101.here hx rfl (pc0 := 119) (pc' := 123) rfl (hb hby d1_119) (by decide) (by decide) ?_
    show Steps p.tables e below (T101.setTop (mkF m 123 #[.val (.ref a1), .val (.int p2)] [(.int (1 : Int32))])) _
    exact retN X101 hx (t := .boolean) Bd.returns (by simp) (hb hby d1_123) hr
  · show QP (.int (1 : Int32)) h0 n0 _ T101.heap _
    rw [e101]
    exact ⟨rfl, N101, rfl⟩
def Q0 (h0 : Heap) (n0 : Nat) (v : Option Value) (h : Heap) (L : List Loc) : Prop := v = some (.int (1 : Int32)) ∧ Fr n0 L
theorem pd_1 : parseMethodDescriptor "(I)Z" = some ⟨[.int], some .boolean⟩ := by decide +kernel
theorem ef_II_7m (m : MethodId) (x0 : Int32) (x1 : Int32) : entryFrame m #[(.int x0), (.int x1)] maxLocals = mkF m 0 #[.val (.int x0), .val (.int x1), .unset, .unset, .unset, .unset, .unset] [] := by first | (simp [entryFrame, mkF, argsToLocals, Value.category, maxLocals]; done) | rfl
theorem pn_2 : plainName "com/example/plugroot/plugroot/sql/ComparisonHoldsPinLaw" = true := by first | (simp [plainName, overriddenIn]; done) | decide +kernel
set_option maxRecDepth 65536 in
set_option maxHeartbeats 40000000 in
theorem rm0_0l (l : Launch) (Z : State) (a0 : Array Value) (hw : ∀ d ∈ tables_1, d.before a0 Z = true) (ws : List Jvm.Cond) (p1 p2 : Int32) (w : Addr) (h0 : Heap) (n0 : Nat) (O0 : Old Z n0 h0) (S : Sta Z Z.heap "com/example/plugroot/plugroot/sql/Comparison" "EQUAL" "Lcom/example/plugroot/plugroot/sql/Comparison;" (.ref w)) (E : Exa Z Z.heap w "com/example/plugroot/plugroot/sql/Comparison") (F_o : Fld Z Z.heap w "java/lang/Enum" "ordinal" "I" (.int 0)) (k0 : (irm (p1 &&& (2147483647 : Int32)) (6 : Int32)) = 0) (s1 : p2 < 0) :
    MetFree l x (head1 (Jvm.Cond.code x code maxLocals ret :: ws) room_1) (fun a_ U => a_ = #[(.int p1), (.int p2)] ∧ Z.Warmed39 U.vm ∧ U.heap = h0) (fun _ _ _ _ _ => True) (fun _ U o U' => ∃ v L, o = .returned v ∧ Q0 h0 n0 v U'.heap L ∧ FrameEnd U o U' L room_1.cells room_1.slots) := by
  refine MetFree.of_bodySF (plainFor_of_name pn_2) hisR ?_
  intro p e s m args below meth c s₁ Bd hml0 hP hK
  obtain ⟨rfl, hZ, hh⟩ := hP
  have hx := Bd.exec
  have hby := Bd.bytes
  have hml : c.maxLocals = 7 := hml0
  have hown : s.vm.findClass "com/example/plugroot/plugroot/sql/ComparisonHoldsPinLaw" = some m.cls := findClass_of_methodNamed Bd.named
  have hnm := (name_of_methodNamed Bd.named Bd.method).1
  have X0 : Stand p l e room_1 s m #[(.int p1), (.int p2)] below meth c s₁ [] 0 0 := Stand.of_body Bd
  have e0 : s₁.heap = h0 := by rw [← hh, Bd.state]; rfl
  have N0 := Fr.nil n0
  have pre0 : ∀ tg, Steps p.tables e below (s₁.setTop (mkF m 0 #[.val (.int p1), .val (.int p2), .unset, .unset, .unset, .unset, .unset] [])) tg → Steps p.tables e below (s₁.setTop (entryFrame m #[(.int p1), (.int p2)] maxLocals)) tg := fun tg kq => castTop (ef_II_7m m p1 p2) kq
  obtain ⟨T101, X101, e101, st101⟩ := getS2 X0 hx hZ hown (host := "") (Or.inl (wi hw 1 rfl)) Via.refl e0 (S.ext O0.2) (g := (mkF m 12 #[.val (.int p1), .val (.int p2), .val (.int (irm (p1 &&& (2147483647 : Int32)) (6 : Int32))), .unset, .unset, .unset, .unset] [])) rfl (hb hby at_12)
  obtain ⟨cq102, kq102, q102a, q102b, q102c⟩ := isOf hZ e101 (E.ext O0.2)
  obtain ⟨_, _, ⟨T102, L102, k102, n102⟩, -, X102, ⟨Lc102, hQ102, l102, y102, z102⟩, st102⟩ := X101.virtualBack hx (y := (⟨"com/example/plugroot/plugroot/sql/Comparison", "holds", "(I)Z"⟩ : MethodName)) (z := (⟨"com/example/plugroot/plugroot/sql/Comparison", "holds", "(I)Z"⟩ : MethodName)) hown (mvT hZ (wi hw 4 rfl)) (mvT hZ (wi hw 5 rfl)) (notFace_of_selects (args := #[]) (mvT hZ (wi hw 7 rfl))) (mvT hZ (wi hw 7 rfl)) (mvT hZ (wi hw 6 rfl)) (by decide) (backOf (W := 0) (rm1_0t l Z a0 hw [] w p2 h0 n0 O0 F_o E (own_sg_lt s1).1) hZ (wi hw 8 rfl) (wi hw 2 rfl) (by decide) (by decide)) q102a q102c (g := (mkF m 132 #[.val (.int p1), .val (.int p2), .val (.int (irm (p1 &&& (2147483647 : Int32)) (6 : Int32))), .val (.ref w), .val (.int (2 : Int32)), .val (.int (0 : Int32)), .val (.int (0 : Int32))] [(.int p2), (.ref w)])) rfl (by rw [hml]; rfl) (Steps.refl _) (argsL := [(.int p2)]) (rest := []) (lenOf pd_1 rfl) rfl (by show 2 * 0 + _ ≤ _; exact Nat.le_of_eq rfl) (hb hby at_132) (fun _ _ => ⟨rfl, e101, (by decide : 0 + 0 ≤ _), (by decide : 0 + 0 ≤ _)⟩)
  dsimp only [Pt.U, Pt.locs, Pt.cells, Pt.slots] at X102 l102 y102 z102 st102 hQ102
  subst l102 y102 z102
  obtain ⟨rfl, N102q, hh102⟩ := hQ102
  have e102 : T102.heap = h0 := hh102
  have N102 := Fr.app N0 N102q
  obtain ⟨fs, hr, hrun, hended, hW, hsame⟩ := X102.leave (v := some (.int (1 : Int32))) (fun h => by rw [Bd.returns] at h; cases h)
  refine ⟨_, _, pre0 _ ?_, hrun, hended, _, _, rfl, ?_, ⟨_, rfl⟩, hW, hsame.mono (by decide) (by decide)⟩
  · show Steps p.tables e below (s₁.setTop (mkF m 0 #[.val (.int p1), .val (.int p2), .unset, .unset, .unset, .unset, .unset] [])) _
    refine XS.iloadN X0.here hx rfl (hb hby at_0) rfl ?_
    show Steps p.tables e below (s₁.setTop (mkF m 1 #[.val (.int p1), .val (.int p2), .unset, .unset, .unset, .unset, .unset] [(.int p1)])) _
    refine X0.ldcInt hx hown (mvT hZ (wi hw 0 rfl)) (g := (mkF m 1 #[.val (.int p1), .val (.int p2), .unset, .unset, .unset, .unset, .unset] [(.int p1)])) rfl (hb hby at_1) _ ?_
    show Steps p.tables e below (s₁.setTop (mkF m 3 #[.val (.int p1), .val (.int p2), .unset, .unset, .unset, .unset, .unset] [(.int (2147483647 : Int32)), (.int p1)])) _
    refine XS.iand X0.here hx rfl (hb hby at_3) rfl ?_
    show Steps p.tables e below (s₁.setTop (mkF m 4 #[.val (.int p1), .val (.int p2), .unset, .unset, .unset, .unset, .unset] [(.int (p1 &&& (2147483647 : Int32)))])) _
    refine XS.bipush X0.here hx rfl (hb hby at_4) ?_
    show Steps p.tables e below (s₁.setTop (mkF m 6 #[.val (.int p1), .val (.int p2), .unset, .unset, .unset, .unset, .unset] [(.int (6 : Int32)), (.int (p1 &&& (2147483647 : Int32)))])) _
    refine XS.irem X0.here hx rfl (hb hby at_6) rfl (by decide) ?_
    show Steps p.tables e below (s₁.setTop (mkF m 7 #[.val (.int p1), .val (.int p2), .unset, .unset, .unset, .unset, .unset] [(.int (irm (p1 &&& (2147483647 : Int32)) (6 : Int32)))])) _
    refine XS.istoreN X0.here hx rfl (hb hby at_7) rfl (l' := #[.val (.int p1), .val (.int p2), .val (.int (irm (p1 &&& (2147483647 : Int32)) (6 : Int32))), .unset, .unset, .unset, .unset]) rfl ?_
    show Steps p.tables e below (s₁.setTop (mkF m 8 #[.val (.int p1), .val (.int p2), .val (.int (irm (p1 &&& (2147483647 : Int32)) (6 : Int32))), .unset, .unset, .unset, .unset] [])) _
    refine XS.iloadN X0.here hx rfl (hb hby at_8) rfl ?_
    show Steps p.tables e below (s₁.setTop (mkF m 9 #[.val (.int p1), .val (.int p2), .val (.int (irm (p1 &&& (2147483647 : Int32)) (6 : Int32))), .unset, .unset, .unset, .unset] [(.int (irm (p1 &&& (2147483647 : Int32)) (6 : Int32)))])) _
    refine XS.ifNo X0.here hx rfl (hb hby at_9) rfl ((if0 _ _).trans (teq k0).2) ?_
    show Steps p.tables e below (s₁.setTop (mkF m 12 #[.val (.int p1), .val (.int p2), .val (.int (irm (p1 &&& (2147483647 : Int32)) (6 : Int32))), .unset, .unset, .unset, .unset] [])) _
    refine st101 _ ?_
    show Steps p.tables e below (T101.setTop (mkF m 15 #[.val (.int p1), .val (.int p2), .val (.int (irm (p1 &&& (2147483647 : Int32)) (6 : Int32))), .unset, .unset, .unset, .unset] [(.ref w)])) _
    refine XS.astoreN X101.here hx rfl (hb hby at_15) rfl rfl (l' := #[.val (.int p1), .val (.int p2), .val (.int (irm (p1 &&& (2147483647 : Int32)) (6 : Int32))), .val (.ref w), .unset, .unset, .unset]) rfl ?_
    show Steps p.tables e below (T101.setTop (mkF m 16 #[.val (.int p1), .val (.int p2), .val (.int (irm (p1 &&& (2147483647 : Int32)) (6 : Int32))), .val (.ref w), .unset, .unset, .unset] [])) _
    refine XS.iconst X101.here hx rfl (hb hby at_16) ?_
    show Steps p.tables e below (T101.setTop (mkF m 17 #[.val (.int p1), .val (.int p2), .val (.int (irm (p1 &&& (2147483647 : Int32)) (6 : Int32))), .val (.ref w), .unset, .unset, .unset] [(.int (2 : Int32))])) _
    refine XS.istore X101.here hx rfl (hb hby at_17) rfl (l' := #[.val (.int p1), .val (.int p2), .val (.int (irm (p1 &&& (2147483647 : Int32)) (6 : Int32))), .val (.ref w), .val (.int (2 : Int32)), .unset, .unset]) rfl ?_
    show Steps p.tables e below (T101.setTop (mkF m 19 #[.val (.int p1), .val (.int p2), .val (.int (irm (p1 &&& (2147483647 : Int32)) (6 : Int32))), .val (.ref w), .val (.int (2 : Int32)), .unset, .unset] [])) _
    refine XS.goto X101.here hx rfl (pc0 := 19) (pc' := 90) rfl (hb hby at_19) (by decide) (by decide) ?_
    show Steps p.tables e below (T101.setTop (mkF m 90 #[.val (.int p1), .val (.int p2), .val (.int (irm (p1 &&& (2147483647 : Int32)) (6 : Int32))), .val (.ref w), .val (.int (2 : Int32)), .unset, .unset] [])) _
    refine XS.iloadN X101.here hx rfl (hb hby at_90) rfl ?_
    show Steps p.tables e below (T101.setTop (mkF m 91 #[.val (.int p1), .val (.int p2), .val (.int (irm (p1 &&& (2147483647 : Int32)) (6 : Int32))), .val (.ref w), .val (.int (2 : Int32)), .unset, .unset] [(.int p2)])) _
    refine XS.ifNo X101.here hx rfl (hb hby at_91) rfl ((if0 _ _).trans (tlt s1).2.1) ?_
    show Steps p.tables e below (T101.setTop (mkF m 94 #[.val (.int p1), .val (.int p2), .val (.int (irm (p1 &&& (2147483647 : Int32)) (6 : Int32))), .val (.ref w), .val (.int (2 : Int32)), .unset, .unset] [])) _
    refine XS.iconst X101.here hx rfl (hb hby at_94) ?_
    show Steps p.tables e below (T101.setTop (mkF m 95 #[.val (.int p1), .val (.int p2), .val (.int (irm (p1 &&& (2147483647 : Int32)) (6 : Int32))), .val (.ref w), .val (.int (2 : Int32)), .unset, .unset] [(.int (0 : Int32))])) _
    refine XS.istore X101.here hx rfl (hb hby at_95) rfl (l' := #[.val (.int p1), .val (.int p2), .val (.int (irm (p1 &&& (2147483647 : Int32)) (6 : Int32))), .val (.ref w), .val (.int (2 : Int32)), .val (.int (0 : Int32)), .unset]) rfl ?_
    show Steps p.tables e below (T101.setTop (mkF m 97 #[.val (.int p1), .val (.int p2), .val (.int (irm (p1 &&& (2147483647 : Int32)) (6 : Int32))), .val (.ref w), .val (.int (2 : Int32)), .val (.int (0 : Int32)), .unset] [])) _
    refine XS.goto X101.here hx rfl (pc0 := 97) (pc' := 113) rfl (hb hby at_97) (by decide) (by decide) ?_
    show Steps p.tables e below (T101.setTop (mkF m 113 #[.val (.int p1), .val (.int p2), .val (.int (irm (p1 &&& (2147483647 : Int32)) (6 : Int32))), .val (.ref w), .val (.int (2 : Int32)), .val (.int (0 : Int32)), .unset] [])) _
    refine XS.iload X101.here hx rfl (hb hby at_113) rfl ?_
    show Steps p.tables e below (T101.setTop (mkF m 115 #[.val (.int p1), .val (.int p2), .val (.int (irm (p1 &&& (2147483647 : Int32)) (6 : Int32))), .val (.ref w), .val (.int (2 : Int32)), .val (.int (0 : Int32)), .unset] [(.int (2 : Int32))])) _
    refine XS.iload X101.here hx rfl (hb hby at_115) rfl ?_
    show Steps p.tables e below (T101.setTop (mkF m 117 #[.val (.int p1), .val (.int p2), .val (.int (irm (p1 &&& (2147483647 : Int32)) (6 : Int32))), .val (.ref w), .val (.int (2 : Int32)), .val (.int (0 : Int32)), .unset] [(.int (0 : Int32)), (.int (2 : Int32))])) _
    refine XS.ishr X101.here hx rfl (hb hby at_117) rfl ?_
    show Steps p.tables e below (T101.setTop (mkF m 118 #[.val (.int p1), .val (.int p2), .val (.int (irm (p1 &&& (2147483647 : Int32)) (6 : Int32))), .val (.ref w), .val (.int (2 : Int32)), .val (.int (0 : Int32)), .unset] [(.int ((2 : Int32) >>> ((0 : Int32) &&& 31)))])) _
    refine XS.iconst X101.here hx rfl (hb hby at_118) ?_
    show Steps p.tables e below (T101.setTop (mkF m 119 #[.val (.int p1), .val (.int p2), .val (.int (irm (p1 &&& (2147483647 : Int32)) (6 : Int32))), .val (.ref w), .val (.int (2 : Int32)), .val (.int (0 : Int32)), .unset] [(.int (1 : Int32)), (.int ((2 : Int32) >>> ((0 : Int32) &&& 31)))])) _
    refine XS.iand X101.here hx rfl (hb hby at_119) rfl ?_
    show Steps p.tables e below (T101.setTop (mkF m 120 #[.val (.int p1), .val (.int p2), .val (.int (irm (p1 &&& (2147483647 : Int32)) (6 : Int32))), .val (.ref w), .val (.int (2 : Int32)), .val (.int (0 : Int32)), .unset] [(.int (((2 : Int32) >>> ((0 : Int32) &&& 31)) &&& (1 : Int32)))])) _
    refine XS.ifYes X101.here hx rfl (pc0 := 120) (pc' := 127) rfl (hb hby at_120) rfl ((if0 _ _).trans (teq (by decide : (((2 : Int32) >>> ((0 : Int32) &&& 31)) &&& (1 : Int32)) = (0 : Int32))).1) (by decide) (by decide) ?_
    show Steps p.tables e below (T101.setTop (mkF m 127 #[.val (.int p1), .val (.int p2), .val (.int (irm (p1 &&& (2147483647 : Int32)) (6 : Int32))), .val (.ref w), .val (.int (2 : Int32)), .val (.int (0 : Int32)), .unset] [])) _
    refine XS.iconst X101.here hx rfl (hb hby at_127) ?_
    show Steps p.tables e below (T101.setTop (mkF m 128 #[.val (.int p1), .val (.int p2), .val (.int (irm (p1 &&& (2147483647 : Int32)) (6 : Int32))), .val (.ref w), .val (.int (2 : Int32)), .val (.int (0 : Int32)), .unset] [(.int (0 : Int32))])) _
    refine XS.istore X101.here hx rfl (hb hby at_128) rfl (l' := #[.val (.int p1), .val (.int p2), .val (.int (irm (p1 &&& (2147483647 : Int32)) (6 : Int32))), .val (.ref w), .val (.int (2 : Int32)), .val (.int (0 : Int32)), .val (.int (0 : Int32))]) rfl ?_
    show Steps p.tables e below (T101.setTop (mkF m 130 #[.val (.int p1), .val (.int p2), .val (.int (irm (p1 &&& (2147483647 : Int32)) (6 : Int32))), .val (.ref w), .val (.int (2 : Int32)), .val (.int (0 : Int32)), .val (.int (0 : Int32))] [])) _
    refine XS.aloadN X101.here hx rfl (hb hby at_130) rfl rfl ?_
    show Steps p.tables e below (T101.setTop (mkF m 131 #[.val (.int p1), .val (.int p2), .val (.int (irm (p1 &&& (2147483647 : Int32)) (6 : Int32))), .val (.ref w), .val (.int (2 : Int32)), .val (.int (0 : Int32)), .val (.int (0 : Int32))] [(.ref w)])) _
    refine XS.iloadN X101.here hx rfl (hb hby at_131) rfl ?_
    show Steps p.tables e below (T101.setTop (mkF m 132 #[.val (.int p1), .val (.int p2), .val (.int (irm (p1 &&& (2147483647 : Int32)) (6 : Int32))), .val (.ref w), .val (.int (2 : Int32)), .val (.int (0 : Int32)), .val (.int (0 : Int32))] [(.int p2), (.ref w)])) _
    refine st102.trans ?_
    show Steps p.tables e below (T102.setTop (mkF m 135 #[.val (.int p1), .val (.int p2), .val (.int (irm (p1 &&& (2147483647 : Int32)) (6 : Int32))), .val (.ref w), .val (.int (2 : Int32)), .val (.int (0 : Int32)), .val (.int (0 : Int32))] [(.int (0 : Int32))])) _
    refine XS.iload X102.here hx rfl (hb hby at_135) rfl ?_
    show Steps p.tables e below (T102.setTop (mkF m 137 #[.val (.int p1), .val (.int p2), .val (.int (irm (p1 &&& (2147483647 : Int32)) (6 : Int32))), .val (.ref w), .val (.int (2 : Int32)), .val (.int (0 : Int32)), .val (.int (0 : Int32))] [(.int (0 : Int32)), (.int (0 : Int32))])) _
    refine XS.icmpNo X102.here hx rfl (hb hby at_137) rfl (teq (by decide : (0 : Int32) = (0 : Int32))).2 ?_
    show Steps p.tables e below (T102.setTop (mkF m 140 #[.val (.int p1), .val (.int p2), .val (.int (irm (p1 &&& (2147483647 : Int32)) (6 : Int32))), .val (.ref w), .val (.int (2 : Int32)), .val (.int (0 : Int32)), .val (.int (0 : Int32))] [])) _
    refine XS.iconst X102.here hx rfl (hb hby at_140) ?_
    show Steps p.tables e below (T102.setTop (mkF m 141 #[.val (.int p1), .val (.int p2), .val (.int (irm (p1 &&& (2147483647 : Int32)) (6 : Int32))), .val (.ref w), .val (.int (2 : Int32)), .val (.int (0 : Int32)), .val (.int (0 : Int32))] [(.int (1 : Int32))])) _
    refine XS.goto X102.here hx rfl (pc0 := 141) (pc' := 145) rfl (hb hby at_141) (by decide) (by decide) ?_
    show Steps p.tables e below (T102.setTop (mkF m 145 #[.val (.int p1), .val (.int p2), .val (.int (irm (p1 &&& (2147483647 : Int32)) (6 : Int32))), .val (.ref w), .val (.int (2 : Int32)), .val (.int (0 : Int32)), .val (.int (0 : Int32))] [(.int (1 : Int32))])) _
    exact retN X102 hx (t := .boolean) Bd.returns (by simp) (hb hby at_145) hr
  · show Q0 h0 n0 _ T102.heap _
    rw [e102]
    exact ⟨rfl, N102⟩
set_option maxRecDepth 65536 in
set_option maxHeartbeats 40000000 in
theorem rm0_0e (l : Launch) (Z : State) (a0 : Array Value) (hw : ∀ d ∈ tables_1, d.before a0 Z = true) (ws : List Jvm.Cond) (p1 p2 : Int32) (w : Addr) (h0 : Heap) (n0 : Nat) (O0 : Old Z n0 h0) (S : Sta Z Z.heap "com/example/plugroot/plugroot/sql/Comparison" "EQUAL" "Lcom/example/plugroot/plugroot/sql/Comparison;" (.ref w)) (E : Exa Z Z.heap w "com/example/plugroot/plugroot/sql/Comparison") (F_o : Fld Z Z.heap w "java/lang/Enum" "ordinal" "I" (.int 0)) (k0 : (irm (p1 &&& (2147483647 : Int32)) (6 : Int32)) = 0) (s1 : ¬ (p2 < 0)) (s2 : p2 = 0) :
    MetFree l x (head1 (Jvm.Cond.code x code maxLocals ret :: ws) room_1) (fun a_ U => a_ = #[(.int p1), (.int p2)] ∧ Z.Warmed39 U.vm ∧ U.heap = h0) (fun _ _ _ _ _ => True) (fun _ U o U' => ∃ v L, o = .returned v ∧ Q0 h0 n0 v U'.heap L ∧ FrameEnd U o U' L room_1.cells room_1.slots) := by
  refine MetFree.of_bodySF (plainFor_of_name pn_2) hisR ?_
  intro p e s m args below meth c s₁ Bd hml0 hP hK
  obtain ⟨rfl, hZ, hh⟩ := hP
  have hx := Bd.exec
  have hby := Bd.bytes
  have hml : c.maxLocals = 7 := hml0
  have hown : s.vm.findClass "com/example/plugroot/plugroot/sql/ComparisonHoldsPinLaw" = some m.cls := findClass_of_methodNamed Bd.named
  have hnm := (name_of_methodNamed Bd.named Bd.method).1
  have X0 : Stand p l e room_1 s m #[(.int p1), (.int p2)] below meth c s₁ [] 0 0 := Stand.of_body Bd
  have e0 : s₁.heap = h0 := by rw [← hh, Bd.state]; rfl
  have N0 := Fr.nil n0
  have pre0 : ∀ tg, Steps p.tables e below (s₁.setTop (mkF m 0 #[.val (.int p1), .val (.int p2), .unset, .unset, .unset, .unset, .unset] [])) tg → Steps p.tables e below (s₁.setTop (entryFrame m #[(.int p1), (.int p2)] maxLocals)) tg := fun tg kq => castTop (ef_II_7m m p1 p2) kq
  obtain ⟨T101, X101, e101, st101⟩ := getS2 X0 hx hZ hown (host := "") (Or.inl (wi hw 1 rfl)) Via.refl e0 (S.ext O0.2) (g := (mkF m 12 #[.val (.int p1), .val (.int p2), .val (.int (irm (p1 &&& (2147483647 : Int32)) (6 : Int32))), .unset, .unset, .unset, .unset] [])) rfl (hb hby at_12)
  obtain ⟨cq102, kq102, q102a, q102b, q102c⟩ := isOf hZ e101 (E.ext O0.2)
  obtain ⟨_, _, ⟨T102, L102, k102, n102⟩, -, X102, ⟨Lc102, hQ102, l102, y102, z102⟩, st102⟩ := X101.virtualBack hx (y := (⟨"com/example/plugroot/plugroot/sql/Comparison", "holds", "(I)Z"⟩ : MethodName)) (z := (⟨"com/example/plugroot/plugroot/sql/Comparison", "holds", "(I)Z"⟩ : MethodName)) hown (mvT hZ (wi hw 4 rfl)) (mvT hZ (wi hw 5 rfl)) (notFace_of_selects (args := #[]) (mvT hZ (wi hw 7 rfl))) (mvT hZ (wi hw 7 rfl)) (mvT hZ (wi hw 6 rfl)) (by decide) (backOf (W := 0) (rm1_0f l Z a0 hw [] w p2 h0 n0 O0 F_o E s2) hZ (wi hw 8 rfl) (wi hw 2 rfl) (by decide) (by decide)) q102a q102c (g := (mkF m 132 #[.val (.int p1), .val (.int p2), .val (.int (irm (p1 &&& (2147483647 : Int32)) (6 : Int32))), .val (.ref w), .val (.int (2 : Int32)), .val (.int (1 : Int32)), .val (.int (1 : Int32))] [(.int p2), (.ref w)])) rfl (by rw [hml]; rfl) (Steps.refl _) (argsL := [(.int p2)]) (rest := []) (lenOf pd_1 rfl) rfl (by show 2 * 0 + _ ≤ _; exact Nat.le_of_eq rfl) (hb hby at_132) (fun _ _ => ⟨rfl, e101, (by decide : 0 + 0 ≤ _), (by decide : 0 + 0 ≤ _)⟩)
  dsimp only [Pt.U, Pt.locs, Pt.cells, Pt.slots] at X102 l102 y102 z102 st102 hQ102
  subst l102 y102 z102
  obtain ⟨rfl, N102q, hh102⟩ := hQ102
  have e102 : T102.heap = h0 := hh102
  have N102 := Fr.app N0 N102q
  obtain ⟨fs, hr, hrun, hended, hW, hsame⟩ := X102.leave (v := some (.int (1 : Int32))) (fun h => by rw [Bd.returns] at h; cases h)
  refine ⟨_, _, pre0 _ ?_, hrun, hended, _, _, rfl, ?_, ⟨_, rfl⟩, hW, hsame.mono (by decide) (by decide)⟩
  · show Steps p.tables e below (s₁.setTop (mkF m 0 #[.val (.int p1), .val (.int p2), .unset, .unset, .unset, .unset, .unset] [])) _
    refine XS.iloadN X0.here hx rfl (hb hby at_0) rfl ?_
    show Steps p.tables e below (s₁.setTop (mkF m 1 #[.val (.int p1), .val (.int p2), .unset, .unset, .unset, .unset, .unset] [(.int p1)])) _
    refine X0.ldcInt hx hown (mvT hZ (wi hw 0 rfl)) (g := (mkF m 1 #[.val (.int p1), .val (.int p2), .unset, .unset, .unset, .unset, .unset] [(.int p1)])) rfl (hb hby at_1) _ ?_
    show Steps p.tables e below (s₁.setTop (mkF m 3 #[.val (.int p1), .val (.int p2), .unset, .unset, .unset, .unset, .unset] [(.int (2147483647 : Int32)), (.int p1)])) _
    refine XS.iand X0.here hx rfl (hb hby at_3) rfl ?_
    show Steps p.tables e below (s₁.setTop (mkF m 4 #[.val (.int p1), .val (.int p2), .unset, .unset, .unset, .unset, .unset] [(.int (p1 &&& (2147483647 : Int32)))])) _
    refine XS.bipush X0.here hx rfl (hb hby at_4) ?_
    show Steps p.tables e below (s₁.setTop (mkF m 6 #[.val (.int p1), .val (.int p2), .unset, .unset, .unset, .unset, .unset] [(.int (6 : Int32)), (.int (p1 &&& (2147483647 : Int32)))])) _
    refine XS.irem X0.here hx rfl (hb hby at_6) rfl (by decide) ?_
    show Steps p.tables e below (s₁.setTop (mkF m 7 #[.val (.int p1), .val (.int p2), .unset, .unset, .unset, .unset, .unset] [(.int (irm (p1 &&& (2147483647 : Int32)) (6 : Int32)))])) _
    refine XS.istoreN X0.here hx rfl (hb hby at_7) rfl (l' := #[.val (.int p1), .val (.int p2), .val (.int (irm (p1 &&& (2147483647 : Int32)) (6 : Int32))), .unset, .unset, .unset, .unset]) rfl ?_
    show Steps p.tables e below (s₁.setTop (mkF m 8 #[.val (.int p1), .val (.int p2), .val (.int (irm (p1 &&& (2147483647 : Int32)) (6 : Int32))), .unset, .unset, .unset, .unset] [])) _
    refine XS.iloadN X0.here hx rfl (hb hby at_8) rfl ?_
    show Steps p.tables e below (s₁.setTop (mkF m 9 #[.val (.int p1), .val (.int p2), .val (.int (irm (p1 &&& (2147483647 : Int32)) (6 : Int32))), .unset, .unset, .unset, .unset] [(.int (irm (p1 &&& (2147483647 : Int32)) (6 : Int32)))])) _
    refine XS.ifNo X0.here hx rfl (hb hby at_9) rfl ((if0 _ _).trans (teq k0).2) ?_
    show Steps p.tables e below (s₁.setTop (mkF m 12 #[.val (.int p1), .val (.int p2), .val (.int (irm (p1 &&& (2147483647 : Int32)) (6 : Int32))), .unset, .unset, .unset, .unset] [])) _
    refine st101 _ ?_
    show Steps p.tables e below (T101.setTop (mkF m 15 #[.val (.int p1), .val (.int p2), .val (.int (irm (p1 &&& (2147483647 : Int32)) (6 : Int32))), .unset, .unset, .unset, .unset] [(.ref w)])) _
    refine XS.astoreN X101.here hx rfl (hb hby at_15) rfl rfl (l' := #[.val (.int p1), .val (.int p2), .val (.int (irm (p1 &&& (2147483647 : Int32)) (6 : Int32))), .val (.ref w), .unset, .unset, .unset]) rfl ?_
    show Steps p.tables e below (T101.setTop (mkF m 16 #[.val (.int p1), .val (.int p2), .val (.int (irm (p1 &&& (2147483647 : Int32)) (6 : Int32))), .val (.ref w), .unset, .unset, .unset] [])) _
    refine XS.iconst X101.here hx rfl (hb hby at_16) ?_
    show Steps p.tables e below (T101.setTop (mkF m 17 #[.val (.int p1), .val (.int p2), .val (.int (irm (p1 &&& (2147483647 : Int32)) (6 : Int32))), .val (.ref w), .unset, .unset, .unset] [(.int (2 : Int32))])) _
    refine XS.istore X101.here hx rfl (hb hby at_17) rfl (l' := #[.val (.int p1), .val (.int p2), .val (.int (irm (p1 &&& (2147483647 : Int32)) (6 : Int32))), .val (.ref w), .val (.int (2 : Int32)), .unset, .unset]) rfl ?_
    show Steps p.tables e below (T101.setTop (mkF m 19 #[.val (.int p1), .val (.int p2), .val (.int (irm (p1 &&& (2147483647 : Int32)) (6 : Int32))), .val (.ref w), .val (.int (2 : Int32)), .unset, .unset] [])) _
    refine XS.goto X101.here hx rfl (pc0 := 19) (pc' := 90) rfl (hb hby at_19) (by decide) (by decide) ?_
    show Steps p.tables e below (T101.setTop (mkF m 90 #[.val (.int p1), .val (.int p2), .val (.int (irm (p1 &&& (2147483647 : Int32)) (6 : Int32))), .val (.ref w), .val (.int (2 : Int32)), .unset, .unset] [])) _
    refine XS.iloadN X101.here hx rfl (hb hby at_90) rfl ?_
    show Steps p.tables e below (T101.setTop (mkF m 91 #[.val (.int p1), .val (.int p2), .val (.int (irm (p1 &&& (2147483647 : Int32)) (6 : Int32))), .val (.ref w), .val (.int (2 : Int32)), .unset, .unset] [(.int p2)])) _
    refine XS.ifYes X101.here hx rfl (pc0 := 91) (pc' := 100) rfl (hb hby at_91) rfl ((if0 _ _).trans (flt s1).2.1) (by decide) (by decide) ?_
    show Steps p.tables e below (T101.setTop (mkF m 100 #[.val (.int p1), .val (.int p2), .val (.int (irm (p1 &&& (2147483647 : Int32)) (6 : Int32))), .val (.ref w), .val (.int (2 : Int32)), .unset, .unset] [])) _
    refine XS.iloadN X101.here hx rfl (hb hby at_100) rfl ?_
    show Steps p.tables e below (T101.setTop (mkF m 101 #[.val (.int p1), .val (.int p2), .val (.int (irm (p1 &&& (2147483647 : Int32)) (6 : Int32))), .val (.ref w), .val (.int (2 : Int32)), .unset, .unset] [(.int p2)])) _
    refine XS.ifNo X101.here hx rfl (hb hby at_101) rfl ((if0 _ _).trans (teq s2).2) ?_
    show Steps p.tables e below (T101.setTop (mkF m 104 #[.val (.int p1), .val (.int p2), .val (.int (irm (p1 &&& (2147483647 : Int32)) (6 : Int32))), .val (.ref w), .val (.int (2 : Int32)), .unset, .unset] [])) _
    refine XS.iconst X101.here hx rfl (hb hby at_104) ?_
    show Steps p.tables e below (T101.setTop (mkF m 105 #[.val (.int p1), .val (.int p2), .val (.int (irm (p1 &&& (2147483647 : Int32)) (6 : Int32))), .val (.ref w), .val (.int (2 : Int32)), .unset, .unset] [(.int (1 : Int32))])) _
    refine XS.istore X101.here hx rfl (hb hby at_105) rfl (l' := #[.val (.int p1), .val (.int p2), .val (.int (irm (p1 &&& (2147483647 : Int32)) (6 : Int32))), .val (.ref w), .val (.int (2 : Int32)), .val (.int (1 : Int32)), .unset]) rfl ?_
    show Steps p.tables e below (T101.setTop (mkF m 107 #[.val (.int p1), .val (.int p2), .val (.int (irm (p1 &&& (2147483647 : Int32)) (6 : Int32))), .val (.ref w), .val (.int (2 : Int32)), .val (.int (1 : Int32)), .unset] [])) _
    refine XS.goto X101.here hx rfl (pc0 := 107) (pc' := 113) rfl (hb hby at_107) (by decide) (by decide) ?_
    show Steps p.tables e below (T101.setTop (mkF m 113 #[.val (.int p1), .val (.int p2), .val (.int (irm (p1 &&& (2147483647 : Int32)) (6 : Int32))), .val (.ref w), .val (.int (2 : Int32)), .val (.int (1 : Int32)), .unset] [])) _
    refine XS.iload X101.here hx rfl (hb hby at_113) rfl ?_
    show Steps p.tables e below (T101.setTop (mkF m 115 #[.val (.int p1), .val (.int p2), .val (.int (irm (p1 &&& (2147483647 : Int32)) (6 : Int32))), .val (.ref w), .val (.int (2 : Int32)), .val (.int (1 : Int32)), .unset] [(.int (2 : Int32))])) _
    refine XS.iload X101.here hx rfl (hb hby at_115) rfl ?_
    show Steps p.tables e below (T101.setTop (mkF m 117 #[.val (.int p1), .val (.int p2), .val (.int (irm (p1 &&& (2147483647 : Int32)) (6 : Int32))), .val (.ref w), .val (.int (2 : Int32)), .val (.int (1 : Int32)), .unset] [(.int (1 : Int32)), (.int (2 : Int32))])) _
    refine XS.ishr X101.here hx rfl (hb hby at_117) rfl ?_
    show Steps p.tables e below (T101.setTop (mkF m 118 #[.val (.int p1), .val (.int p2), .val (.int (irm (p1 &&& (2147483647 : Int32)) (6 : Int32))), .val (.ref w), .val (.int (2 : Int32)), .val (.int (1 : Int32)), .unset] [(.int ((2 : Int32) >>> ((1 : Int32) &&& 31)))])) _
    refine XS.iconst X101.here hx rfl (hb hby at_118) ?_
    show Steps p.tables e below (T101.setTop (mkF m 119 #[.val (.int p1), .val (.int p2), .val (.int (irm (p1 &&& (2147483647 : Int32)) (6 : Int32))), .val (.ref w), .val (.int (2 : Int32)), .val (.int (1 : Int32)), .unset] [(.int (1 : Int32)), (.int ((2 : Int32) >>> ((1 : Int32) &&& 31)))])) _
    refine XS.iand X101.here hx rfl (hb hby at_119) rfl ?_
    show Steps p.tables e below (T101.setTop (mkF m 120 #[.val (.int p1), .val (.int p2), .val (.int (irm (p1 &&& (2147483647 : Int32)) (6 : Int32))), .val (.ref w), .val (.int (2 : Int32)), .val (.int (1 : Int32)), .unset] [(.int (((2 : Int32) >>> ((1 : Int32) &&& 31)) &&& (1 : Int32)))])) _
    refine XS.ifNo X101.here hx rfl (hb hby at_120) rfl ((if0 _ _).trans (feq (by decide : ¬ ((((2 : Int32) >>> ((1 : Int32) &&& 31)) &&& (1 : Int32)) = (0 : Int32)))).1) ?_
    show Steps p.tables e below (T101.setTop (mkF m 123 #[.val (.int p1), .val (.int p2), .val (.int (irm (p1 &&& (2147483647 : Int32)) (6 : Int32))), .val (.ref w), .val (.int (2 : Int32)), .val (.int (1 : Int32)), .unset] [])) _
    refine XS.iconst X101.here hx rfl (hb hby at_123) ?_
    show Steps p.tables e below (T101.setTop (mkF m 124 #[.val (.int p1), .val (.int p2), .val (.int (irm (p1 &&& (2147483647 : Int32)) (6 : Int32))), .val (.ref w), .val (.int (2 : Int32)), .val (.int (1 : Int32)), .unset] [(.int (1 : Int32))])) _
    refine XS.goto X101.here hx rfl (pc0 := 124) (pc' := 128) rfl (hb hby at_124) (by decide) (by decide) ?_
    show Steps p.tables e below (T101.setTop (mkF m 128 #[.val (.int p1), .val (.int p2), .val (.int (irm (p1 &&& (2147483647 : Int32)) (6 : Int32))), .val (.ref w), .val (.int (2 : Int32)), .val (.int (1 : Int32)), .unset] [(.int (1 : Int32))])) _
    refine XS.istore X101.here hx rfl (hb hby at_128) rfl (l' := #[.val (.int p1), .val (.int p2), .val (.int (irm (p1 &&& (2147483647 : Int32)) (6 : Int32))), .val (.ref w), .val (.int (2 : Int32)), .val (.int (1 : Int32)), .val (.int (1 : Int32))]) rfl ?_
    show Steps p.tables e below (T101.setTop (mkF m 130 #[.val (.int p1), .val (.int p2), .val (.int (irm (p1 &&& (2147483647 : Int32)) (6 : Int32))), .val (.ref w), .val (.int (2 : Int32)), .val (.int (1 : Int32)), .val (.int (1 : Int32))] [])) _
    refine XS.aloadN X101.here hx rfl (hb hby at_130) rfl rfl ?_
    show Steps p.tables e below (T101.setTop (mkF m 131 #[.val (.int p1), .val (.int p2), .val (.int (irm (p1 &&& (2147483647 : Int32)) (6 : Int32))), .val (.ref w), .val (.int (2 : Int32)), .val (.int (1 : Int32)), .val (.int (1 : Int32))] [(.ref w)])) _
    refine XS.iloadN X101.here hx rfl (hb hby at_131) rfl ?_
    show Steps p.tables e below (T101.setTop (mkF m 132 #[.val (.int p1), .val (.int p2), .val (.int (irm (p1 &&& (2147483647 : Int32)) (6 : Int32))), .val (.ref w), .val (.int (2 : Int32)), .val (.int (1 : Int32)), .val (.int (1 : Int32))] [(.int p2), (.ref w)])) _
    refine st102.trans ?_
    show Steps p.tables e below (T102.setTop (mkF m 135 #[.val (.int p1), .val (.int p2), .val (.int (irm (p1 &&& (2147483647 : Int32)) (6 : Int32))), .val (.ref w), .val (.int (2 : Int32)), .val (.int (1 : Int32)), .val (.int (1 : Int32))] [(.int (1 : Int32))])) _
    refine XS.iload X102.here hx rfl (hb hby at_135) rfl ?_
    show Steps p.tables e below (T102.setTop (mkF m 137 #[.val (.int p1), .val (.int p2), .val (.int (irm (p1 &&& (2147483647 : Int32)) (6 : Int32))), .val (.ref w), .val (.int (2 : Int32)), .val (.int (1 : Int32)), .val (.int (1 : Int32))] [(.int (1 : Int32)), (.int (1 : Int32))])) _
    refine XS.icmpNo X102.here hx rfl (hb hby at_137) rfl (teq (by decide : (1 : Int32) = (1 : Int32))).2 ?_
    show Steps p.tables e below (T102.setTop (mkF m 140 #[.val (.int p1), .val (.int p2), .val (.int (irm (p1 &&& (2147483647 : Int32)) (6 : Int32))), .val (.ref w), .val (.int (2 : Int32)), .val (.int (1 : Int32)), .val (.int (1 : Int32))] [])) _
    refine XS.iconst X102.here hx rfl (hb hby at_140) ?_
    show Steps p.tables e below (T102.setTop (mkF m 141 #[.val (.int p1), .val (.int p2), .val (.int (irm (p1 &&& (2147483647 : Int32)) (6 : Int32))), .val (.ref w), .val (.int (2 : Int32)), .val (.int (1 : Int32)), .val (.int (1 : Int32))] [(.int (1 : Int32))])) _
    refine XS.goto X102.here hx rfl (pc0 := 141) (pc' := 145) rfl (hb hby at_141) (by decide) (by decide) ?_
    show Steps p.tables e below (T102.setTop (mkF m 145 #[.val (.int p1), .val (.int p2), .val (.int (irm (p1 &&& (2147483647 : Int32)) (6 : Int32))), .val (.ref w), .val (.int (2 : Int32)), .val (.int (1 : Int32)), .val (.int (1 : Int32))] [(.int (1 : Int32))])) _
    exact retN X102 hx (t := .boolean) Bd.returns (by simp) (hb hby at_145) hr
  · show Q0 h0 n0 _ T102.heap _
    rw [e102]
    exact ⟨rfl, N102⟩
set_option maxRecDepth 65536 in
set_option maxHeartbeats 40000000 in
theorem rm0_0g (l : Launch) (Z : State) (a0 : Array Value) (hw : ∀ d ∈ tables_1, d.before a0 Z = true) (ws : List Jvm.Cond) (p1 p2 : Int32) (w : Addr) (h0 : Heap) (n0 : Nat) (O0 : Old Z n0 h0) (S : Sta Z Z.heap "com/example/plugroot/plugroot/sql/Comparison" "EQUAL" "Lcom/example/plugroot/plugroot/sql/Comparison;" (.ref w)) (E : Exa Z Z.heap w "com/example/plugroot/plugroot/sql/Comparison") (F_o : Fld Z Z.heap w "java/lang/Enum" "ordinal" "I" (.int 0)) (k0 : (irm (p1 &&& (2147483647 : Int32)) (6 : Int32)) = 0) (s1 : ¬ (p2 < 0)) (s2 : ¬ (p2 = 0)) :
    MetFree l x (head1 (Jvm.Cond.code x code maxLocals ret :: ws) room_1) (fun a_ U => a_ = #[(.int p1), (.int p2)] ∧ Z.Warmed39 U.vm ∧ U.heap = h0) (fun _ _ _ _ _ => True) (fun _ U o U' => ∃ v L, o = .returned v ∧ Q0 h0 n0 v U'.heap L ∧ FrameEnd U o U' L room_1.cells room_1.slots) := by
  refine MetFree.of_bodySF (plainFor_of_name pn_2) hisR ?_
  intro p e s m args below meth c s₁ Bd hml0 hP hK
  obtain ⟨rfl, hZ, hh⟩ := hP
  have hx := Bd.exec
  have hby := Bd.bytes
  have hml : c.maxLocals = 7 := hml0
  have hown : s.vm.findClass "com/example/plugroot/plugroot/sql/ComparisonHoldsPinLaw" = some m.cls := findClass_of_methodNamed Bd.named
  have hnm := (name_of_methodNamed Bd.named Bd.method).1
  have X0 : Stand p l e room_1 s m #[(.int p1), (.int p2)] below meth c s₁ [] 0 0 := Stand.of_body Bd
  have e0 : s₁.heap = h0 := by rw [← hh, Bd.state]; rfl
  have N0 := Fr.nil n0
  have pre0 : ∀ tg, Steps p.tables e below (s₁.setTop (mkF m 0 #[.val (.int p1), .val (.int p2), .unset, .unset, .unset, .unset, .unset] [])) tg → Steps p.tables e below (s₁.setTop (entryFrame m #[(.int p1), (.int p2)] maxLocals)) tg := fun tg kq => castTop (ef_II_7m m p1 p2) kq
  obtain ⟨T101, X101, e101, st101⟩ := getS2 X0 hx hZ hown (host := "") (Or.inl (wi hw 1 rfl)) Via.refl e0 (S.ext O0.2) (g := (mkF m 12 #[.val (.int p1), .val (.int p2), .val (.int (irm (p1 &&& (2147483647 : Int32)) (6 : Int32))), .unset, .unset, .unset, .unset] [])) rfl (hb hby at_12)
  obtain ⟨cq102, kq102, q102a, q102b, q102c⟩ := isOf hZ e101 (E.ext O0.2)
  obtain ⟨_, _, ⟨T102, L102, k102, n102⟩, -, X102, ⟨Lc102, hQ102, l102, y102, z102⟩, st102⟩ := X101.virtualBack hx (y := (⟨"com/example/plugroot/plugroot/sql/Comparison", "holds", "(I)Z"⟩ : MethodName)) (z := (⟨"com/example/plugroot/plugroot/sql/Comparison", "holds", "(I)Z"⟩ : MethodName)) hown (mvT hZ (wi hw 4 rfl)) (mvT hZ (wi hw 5 rfl)) (notFace_of_selects (args := #[]) (mvT hZ (wi hw 7 rfl))) (mvT hZ (wi hw 7 rfl)) (mvT hZ (wi hw 6 rfl)) (by decide) (backOf (W := 0) (rm1_0t l Z a0 hw [] w p2 h0 n0 O0 F_o E s2) hZ (wi hw 8 rfl) (wi hw 2 rfl) (by decide) (by decide)) q102a q102c (g := (mkF m 132 #[.val (.int p1), .val (.int p2), .val (.int (irm (p1 &&& (2147483647 : Int32)) (6 : Int32))), .val (.ref w), .val (.int (2 : Int32)), .val (.int (2 : Int32)), .val (.int (0 : Int32))] [(.int p2), (.ref w)])) rfl (by rw [hml]; rfl) (Steps.refl _) (argsL := [(.int p2)]) (rest := []) (lenOf pd_1 rfl) rfl (by show 2 * 0 + _ ≤ _; exact Nat.le_of_eq rfl) (hb hby at_132) (fun _ _ => ⟨rfl, e101, (by decide : 0 + 0 ≤ _), (by decide : 0 + 0 ≤ _)⟩)
  dsimp only [Pt.U, Pt.locs, Pt.cells, Pt.slots] at X102 l102 y102 z102 st102 hQ102
  subst l102 y102 z102
  obtain ⟨rfl, N102q, hh102⟩ := hQ102
  have e102 : T102.heap = h0 := hh102
  have N102 := Fr.app N0 N102q
  obtain ⟨fs, hr, hrun, hended, hW, hsame⟩ := X102.leave (v := some (.int (1 : Int32))) (fun h => by rw [Bd.returns] at h; cases h)
  refine ⟨_, _, pre0 _ ?_, hrun, hended, _, _, rfl, ?_, ⟨_, rfl⟩, hW, hsame.mono (by decide) (by decide)⟩
  · show Steps p.tables e below (s₁.setTop (mkF m 0 #[.val (.int p1), .val (.int p2), .unset, .unset, .unset, .unset, .unset] [])) _
    refine XS.iloadN X0.here hx rfl (hb hby at_0) rfl ?_
    show Steps p.tables e below (s₁.setTop (mkF m 1 #[.val (.int p1), .val (.int p2), .unset, .unset, .unset, .unset, .unset] [(.int p1)])) _
    refine X0.ldcInt hx hown (mvT hZ (wi hw 0 rfl)) (g := (mkF m 1 #[.val (.int p1), .val (.int p2), .unset, .unset, .unset, .unset, .unset] [(.int p1)])) rfl (hb hby at_1) _ ?_
    show Steps p.tables e below (s₁.setTop (mkF m 3 #[.val (.int p1), .val (.int p2), .unset, .unset, .unset, .unset, .unset] [(.int (2147483647 : Int32)), (.int p1)])) _
    refine XS.iand X0.here hx rfl (hb hby at_3) rfl ?_
    show Steps p.tables e below (s₁.setTop (mkF m 4 #[.val (.int p1), .val (.int p2), .unset, .unset, .unset, .unset, .unset] [(.int (p1 &&& (2147483647 : Int32)))])) _
    refine XS.bipush X0.here hx rfl (hb hby at_4) ?_
    show Steps p.tables e below (s₁.setTop (mkF m 6 #[.val (.int p1), .val (.int p2), .unset, .unset, .unset, .unset, .unset] [(.int (6 : Int32)), (.int (p1 &&& (2147483647 : Int32)))])) _
    refine XS.irem X0.here hx rfl (hb hby at_6) rfl (by decide) ?_
    show Steps p.tables e below (s₁.setTop (mkF m 7 #[.val (.int p1), .val (.int p2), .unset, .unset, .unset, .unset, .unset] [(.int (irm (p1 &&& (2147483647 : Int32)) (6 : Int32)))])) _
    refine XS.istoreN X0.here hx rfl (hb hby at_7) rfl (l' := #[.val (.int p1), .val (.int p2), .val (.int (irm (p1 &&& (2147483647 : Int32)) (6 : Int32))), .unset, .unset, .unset, .unset]) rfl ?_
    show Steps p.tables e below (s₁.setTop (mkF m 8 #[.val (.int p1), .val (.int p2), .val (.int (irm (p1 &&& (2147483647 : Int32)) (6 : Int32))), .unset, .unset, .unset, .unset] [])) _
    refine XS.iloadN X0.here hx rfl (hb hby at_8) rfl ?_
    show Steps p.tables e below (s₁.setTop (mkF m 9 #[.val (.int p1), .val (.int p2), .val (.int (irm (p1 &&& (2147483647 : Int32)) (6 : Int32))), .unset, .unset, .unset, .unset] [(.int (irm (p1 &&& (2147483647 : Int32)) (6 : Int32)))])) _
    refine XS.ifNo X0.here hx rfl (hb hby at_9) rfl ((if0 _ _).trans (teq k0).2) ?_
    show Steps p.tables e below (s₁.setTop (mkF m 12 #[.val (.int p1), .val (.int p2), .val (.int (irm (p1 &&& (2147483647 : Int32)) (6 : Int32))), .unset, .unset, .unset, .unset] [])) _
    refine st101 _ ?_
    show Steps p.tables e below (T101.setTop (mkF m 15 #[.val (.int p1), .val (.int p2), .val (.int (irm (p1 &&& (2147483647 : Int32)) (6 : Int32))), .unset, .unset, .unset, .unset] [(.ref w)])) _
    refine XS.astoreN X101.here hx rfl (hb hby at_15) rfl rfl (l' := #[.val (.int p1), .val (.int p2), .val (.int (irm (p1 &&& (2147483647 : Int32)) (6 : Int32))), .val (.ref w), .unset, .unset, .unset]) rfl ?_
    show Steps p.tables e below (T101.setTop (mkF m 16 #[.val (.int p1), .val (.int p2), .val (.int (irm (p1 &&& (2147483647 : Int32)) (6 : Int32))), .val (.ref w), .unset, .unset, .unset] [])) _
    refine XS.iconst X101.here hx rfl (hb hby at_16) ?_
    show Steps p.tables e below (T101.setTop (mkF m 17 #[.val (.int p1), .val (.int p2), .val (.int (irm (p1 &&& (2147483647 : Int32)) (6 : Int32))), .val (.ref w), .unset, .unset, .unset] [(.int (2 : Int32))])) _
    refine XS.istore X101.here hx rfl (hb hby at_17) rfl (l' := #[.val (.int p1), .val (.int p2), .val (.int (irm (p1 &&& (2147483647 : Int32)) (6 : Int32))), .val (.ref w), .val (.int (2 : Int32)), .unset, .unset]) rfl ?_
    show Steps p.tables e below (T101.setTop (mkF m 19 #[.val (.int p1), .val (.int p2), .val (.int (irm (p1 &&& (2147483647 : Int32)) (6 : Int32))), .val (.ref w), .val (.int (2 : Int32)), .unset, .unset] [])) _
    refine XS.goto X101.here hx rfl (pc0 := 19) (pc' := 90) rfl (hb hby at_19) (by decide) (by decide) ?_
    show Steps p.tables e below (T101.setTop (mkF m 90 #[.val (.int p1), .val (.int p2), .val (.int (irm (p1 &&& (2147483647 : Int32)) (6 : Int32))), .val (.ref w), .val (.int (2 : Int32)), .unset, .unset] [])) _
    refine XS.iloadN X101.here hx rfl (hb hby at_90) rfl ?_
    show Steps p.tables e below (T101.setTop (mkF m 91 #[.val (.int p1), .val (.int p2), .val (.int (irm (p1 &&& (2147483647 : Int32)) (6 : Int32))), .val (.ref w), .val (.int (2 : Int32)), .unset, .unset] [(.int p2)])) _
    refine XS.ifYes X101.here hx rfl (pc0 := 91) (pc' := 100) rfl (hb hby at_91) rfl ((if0 _ _).trans (flt s1).2.1) (by decide) (by decide) ?_
    show Steps p.tables e below (T101.setTop (mkF m 100 #[.val (.int p1), .val (.int p2), .val (.int (irm (p1 &&& (2147483647 : Int32)) (6 : Int32))), .val (.ref w), .val (.int (2 : Int32)), .unset, .unset] [])) _
    refine XS.iloadN X101.here hx rfl (hb hby at_100) rfl ?_
    show Steps p.tables e below (T101.setTop (mkF m 101 #[.val (.int p1), .val (.int p2), .val (.int (irm (p1 &&& (2147483647 : Int32)) (6 : Int32))), .val (.ref w), .val (.int (2 : Int32)), .unset, .unset] [(.int p2)])) _
    refine XS.ifYes X101.here hx rfl (pc0 := 101) (pc' := 110) rfl (hb hby at_101) rfl ((if0 _ _).trans (feq s2).2) (by decide) (by decide) ?_
    show Steps p.tables e below (T101.setTop (mkF m 110 #[.val (.int p1), .val (.int p2), .val (.int (irm (p1 &&& (2147483647 : Int32)) (6 : Int32))), .val (.ref w), .val (.int (2 : Int32)), .unset, .unset] [])) _
    refine XS.iconst X101.here hx rfl (hb hby at_110) ?_
    show Steps p.tables e below (T101.setTop (mkF m 111 #[.val (.int p1), .val (.int p2), .val (.int (irm (p1 &&& (2147483647 : Int32)) (6 : Int32))), .val (.ref w), .val (.int (2 : Int32)), .unset, .unset] [(.int (2 : Int32))])) _
    refine XS.istore X101.here hx rfl (hb hby at_111) rfl (l' := #[.val (.int p1), .val (.int p2), .val (.int (irm (p1 &&& (2147483647 : Int32)) (6 : Int32))), .val (.ref w), .val (.int (2 : Int32)), .val (.int (2 : Int32)), .unset]) rfl ?_
    show Steps p.tables e below (T101.setTop (mkF m 113 #[.val (.int p1), .val (.int p2), .val (.int (irm (p1 &&& (2147483647 : Int32)) (6 : Int32))), .val (.ref w), .val (.int (2 : Int32)), .val (.int (2 : Int32)), .unset] [])) _
    refine XS.iload X101.here hx rfl (hb hby at_113) rfl ?_
    show Steps p.tables e below (T101.setTop (mkF m 115 #[.val (.int p1), .val (.int p2), .val (.int (irm (p1 &&& (2147483647 : Int32)) (6 : Int32))), .val (.ref w), .val (.int (2 : Int32)), .val (.int (2 : Int32)), .unset] [(.int (2 : Int32))])) _
    refine XS.iload X101.here hx rfl (hb hby at_115) rfl ?_
    show Steps p.tables e below (T101.setTop (mkF m 117 #[.val (.int p1), .val (.int p2), .val (.int (irm (p1 &&& (2147483647 : Int32)) (6 : Int32))), .val (.ref w), .val (.int (2 : Int32)), .val (.int (2 : Int32)), .unset] [(.int (2 : Int32)), (.int (2 : Int32))])) _
    refine XS.ishr X101.here hx rfl (hb hby at_117) rfl ?_
    show Steps p.tables e below (T101.setTop (mkF m 118 #[.val (.int p1), .val (.int p2), .val (.int (irm (p1 &&& (2147483647 : Int32)) (6 : Int32))), .val (.ref w), .val (.int (2 : Int32)), .val (.int (2 : Int32)), .unset] [(.int ((2 : Int32) >>> ((2 : Int32) &&& 31)))])) _
    refine XS.iconst X101.here hx rfl (hb hby at_118) ?_
    show Steps p.tables e below (T101.setTop (mkF m 119 #[.val (.int p1), .val (.int p2), .val (.int (irm (p1 &&& (2147483647 : Int32)) (6 : Int32))), .val (.ref w), .val (.int (2 : Int32)), .val (.int (2 : Int32)), .unset] [(.int (1 : Int32)), (.int ((2 : Int32) >>> ((2 : Int32) &&& 31)))])) _
    refine XS.iand X101.here hx rfl (hb hby at_119) rfl ?_
    show Steps p.tables e below (T101.setTop (mkF m 120 #[.val (.int p1), .val (.int p2), .val (.int (irm (p1 &&& (2147483647 : Int32)) (6 : Int32))), .val (.ref w), .val (.int (2 : Int32)), .val (.int (2 : Int32)), .unset] [(.int (((2 : Int32) >>> ((2 : Int32) &&& 31)) &&& (1 : Int32)))])) _
    refine XS.ifYes X101.here hx rfl (pc0 := 120) (pc' := 127) rfl (hb hby at_120) rfl ((if0 _ _).trans (teq (by decide : (((2 : Int32) >>> ((2 : Int32) &&& 31)) &&& (1 : Int32)) = (0 : Int32))).1) (by decide) (by decide) ?_
    show Steps p.tables e below (T101.setTop (mkF m 127 #[.val (.int p1), .val (.int p2), .val (.int (irm (p1 &&& (2147483647 : Int32)) (6 : Int32))), .val (.ref w), .val (.int (2 : Int32)), .val (.int (2 : Int32)), .unset] [])) _
    refine XS.iconst X101.here hx rfl (hb hby at_127) ?_
    show Steps p.tables e below (T101.setTop (mkF m 128 #[.val (.int p1), .val (.int p2), .val (.int (irm (p1 &&& (2147483647 : Int32)) (6 : Int32))), .val (.ref w), .val (.int (2 : Int32)), .val (.int (2 : Int32)), .unset] [(.int (0 : Int32))])) _
    refine XS.istore X101.here hx rfl (hb hby at_128) rfl (l' := #[.val (.int p1), .val (.int p2), .val (.int (irm (p1 &&& (2147483647 : Int32)) (6 : Int32))), .val (.ref w), .val (.int (2 : Int32)), .val (.int (2 : Int32)), .val (.int (0 : Int32))]) rfl ?_
    show Steps p.tables e below (T101.setTop (mkF m 130 #[.val (.int p1), .val (.int p2), .val (.int (irm (p1 &&& (2147483647 : Int32)) (6 : Int32))), .val (.ref w), .val (.int (2 : Int32)), .val (.int (2 : Int32)), .val (.int (0 : Int32))] [])) _
    refine XS.aloadN X101.here hx rfl (hb hby at_130) rfl rfl ?_
    show Steps p.tables e below (T101.setTop (mkF m 131 #[.val (.int p1), .val (.int p2), .val (.int (irm (p1 &&& (2147483647 : Int32)) (6 : Int32))), .val (.ref w), .val (.int (2 : Int32)), .val (.int (2 : Int32)), .val (.int (0 : Int32))] [(.ref w)])) _
    refine XS.iloadN X101.here hx rfl (hb hby at_131) rfl ?_
    show Steps p.tables e below (T101.setTop (mkF m 132 #[.val (.int p1), .val (.int p2), .val (.int (irm (p1 &&& (2147483647 : Int32)) (6 : Int32))), .val (.ref w), .val (.int (2 : Int32)), .val (.int (2 : Int32)), .val (.int (0 : Int32))] [(.int p2), (.ref w)])) _
    refine st102.trans ?_
    show Steps p.tables e below (T102.setTop (mkF m 135 #[.val (.int p1), .val (.int p2), .val (.int (irm (p1 &&& (2147483647 : Int32)) (6 : Int32))), .val (.ref w), .val (.int (2 : Int32)), .val (.int (2 : Int32)), .val (.int (0 : Int32))] [(.int (0 : Int32))])) _
    refine XS.iload X102.here hx rfl (hb hby at_135) rfl ?_
    show Steps p.tables e below (T102.setTop (mkF m 137 #[.val (.int p1), .val (.int p2), .val (.int (irm (p1 &&& (2147483647 : Int32)) (6 : Int32))), .val (.ref w), .val (.int (2 : Int32)), .val (.int (2 : Int32)), .val (.int (0 : Int32))] [(.int (0 : Int32)), (.int (0 : Int32))])) _
    refine XS.icmpNo X102.here hx rfl (hb hby at_137) rfl (teq (by decide : (0 : Int32) = (0 : Int32))).2 ?_
    show Steps p.tables e below (T102.setTop (mkF m 140 #[.val (.int p1), .val (.int p2), .val (.int (irm (p1 &&& (2147483647 : Int32)) (6 : Int32))), .val (.ref w), .val (.int (2 : Int32)), .val (.int (2 : Int32)), .val (.int (0 : Int32))] [])) _
    refine XS.iconst X102.here hx rfl (hb hby at_140) ?_
    show Steps p.tables e below (T102.setTop (mkF m 141 #[.val (.int p1), .val (.int p2), .val (.int (irm (p1 &&& (2147483647 : Int32)) (6 : Int32))), .val (.ref w), .val (.int (2 : Int32)), .val (.int (2 : Int32)), .val (.int (0 : Int32))] [(.int (1 : Int32))])) _
    refine XS.goto X102.here hx rfl (pc0 := 141) (pc' := 145) rfl (hb hby at_141) (by decide) (by decide) ?_
    show Steps p.tables e below (T102.setTop (mkF m 145 #[.val (.int p1), .val (.int p2), .val (.int (irm (p1 &&& (2147483647 : Int32)) (6 : Int32))), .val (.ref w), .val (.int (2 : Int32)), .val (.int (2 : Int32)), .val (.int (0 : Int32))] [(.int (1 : Int32))])) _
    exact retN X102 hx (t := .boolean) Bd.returns (by simp) (hb hby at_145) hr
  · show Q0 h0 n0 _ T102.heap _
    rw [e102]
    exact ⟨rfl, N102⟩
set_option maxRecDepth 65536 in
set_option maxHeartbeats 40000000 in
theorem rm0_1l (l : Launch) (Z : State) (a0 : Array Value) (hw : ∀ d ∈ tables_1, d.before a0 Z = true) (ws : List Jvm.Cond) (p1 p2 : Int32) (w : Addr) (h0 : Heap) (n0 : Nat) (O0 : Old Z n0 h0) (S : Sta Z Z.heap "com/example/plugroot/plugroot/sql/Comparison" "NOT_EQUAL" "Lcom/example/plugroot/plugroot/sql/Comparison;" (.ref w)) (E : Exa Z Z.heap w "com/example/plugroot/plugroot/sql/Comparison") (F_o : Fld Z Z.heap w "java/lang/Enum" "ordinal" "I" (.int 1)) (k0 : ¬ ((irm (p1 &&& (2147483647 : Int32)) (6 : Int32)) = 0)) (k1 : (irm (p1 &&& (2147483647 : Int32)) (6 : Int32)) = 1) (s1 : p2 < 0) :
    MetFree l x (head1 (Jvm.Cond.code x code maxLocals ret :: ws) room_1) (fun a_ U => a_ = #[(.int p1), (.int p2)] ∧ Z.Warmed39 U.vm ∧ U.heap = h0) (fun _ _ _ _ _ => True) (fun _ U o U' => ∃ v L, o = .returned v ∧ Q0 h0 n0 v U'.heap L ∧ FrameEnd U o U' L room_1.cells room_1.slots) := by
  refine MetFree.of_bodySF (plainFor_of_name pn_2) hisR ?_
  intro p e s m args below meth c s₁ Bd hml0 hP hK
  obtain ⟨rfl, hZ, hh⟩ := hP
  have hx := Bd.exec
  have hby := Bd.bytes
  have hml : c.maxLocals = 7 := hml0
  have hown : s.vm.findClass "com/example/plugroot/plugroot/sql/ComparisonHoldsPinLaw" = some m.cls := findClass_of_methodNamed Bd.named
  have hnm := (name_of_methodNamed Bd.named Bd.method).1
  have X0 : Stand p l e room_1 s m #[(.int p1), (.int p2)] below meth c s₁ [] 0 0 := Stand.of_body Bd
  have e0 : s₁.heap = h0 := by rw [← hh, Bd.state]; rfl
  have N0 := Fr.nil n0
  have pre0 : ∀ tg, Steps p.tables e below (s₁.setTop (mkF m 0 #[.val (.int p1), .val (.int p2), .unset, .unset, .unset, .unset, .unset] [])) tg → Steps p.tables e below (s₁.setTop (entryFrame m #[(.int p1), (.int p2)] maxLocals)) tg := fun tg kq => castTop (ef_II_7m m p1 p2) kq
  obtain ⟨T101, X101, e101, st101⟩ := getS2 X0 hx hZ hown (host := "") (Or.inl (wi hw 22 rfl)) Via.refl e0 (S.ext O0.2) (g := (mkF m 27 #[.val (.int p1), .val (.int p2), .val (.int (irm (p1 &&& (2147483647 : Int32)) (6 : Int32))), .unset, .unset, .unset, .unset] [])) rfl (hb hby at_27)
  obtain ⟨cq102, kq102, q102a, q102b, q102c⟩ := isOf hZ e101 (E.ext O0.2)
  obtain ⟨_, _, ⟨T102, L102, k102, n102⟩, -, X102, ⟨Lc102, hQ102, l102, y102, z102⟩, st102⟩ := X101.virtualBack hx (y := (⟨"com/example/plugroot/plugroot/sql/Comparison", "holds", "(I)Z"⟩ : MethodName)) (z := (⟨"com/example/plugroot/plugroot/sql/Comparison", "holds", "(I)Z"⟩ : MethodName)) hown (mvT hZ (wi hw 4 rfl)) (mvT hZ (wi hw 5 rfl)) (notFace_of_selects (args := #[]) (mvT hZ (wi hw 7 rfl))) (mvT hZ (wi hw 7 rfl)) (mvT hZ (wi hw 6 rfl)) (by decide) (backOf (W := 0) (rm1_1f l Z a0 hw [] w p2 h0 n0 O0 F_o E (own_sg_lt s1).1) hZ (wi hw 8 rfl) (wi hw 2 rfl) (by decide) (by decide)) q102a q102c (g := (mkF m 132 #[.val (.int p1), .val (.int p2), .val (.int (irm (p1 &&& (2147483647 : Int32)) (6 : Int32))), .val (.ref w), .val (.int (5 : Int32)), .val (.int (0 : Int32)), .val (.int (1 : Int32))] [(.int p2), (.ref w)])) rfl (by rw [hml]; rfl) (Steps.refl _) (argsL := [(.int p2)]) (rest := []) (lenOf pd_1 rfl) rfl (by show 2 * 0 + _ ≤ _; exact Nat.le_of_eq rfl) (hb hby at_132) (fun _ _ => ⟨rfl, e101, (by decide : 0 + 0 ≤ _), (by decide : 0 + 0 ≤ _)⟩)
  dsimp only [Pt.U, Pt.locs, Pt.cells, Pt.slots] at X102 l102 y102 z102 st102 hQ102
  subst l102 y102 z102
  obtain ⟨rfl, N102q, hh102⟩ := hQ102
  have e102 : T102.heap = h0 := hh102
  have N102 := Fr.app N0 N102q
  obtain ⟨fs, hr, hrun, hended, hW, hsame⟩ := X102.leave (v := some (.int (1 : Int32))) (fun h => by rw [Bd.returns] at h; cases h)
  refine ⟨_, _, pre0 _ ?_, hrun, hended, _, _, rfl, ?_, ⟨_, rfl⟩, hW, hsame.mono (by decide) (by decide)⟩
  · show Steps p.tables e below (s₁.setTop (mkF m 0 #[.val (.int p1), .val (.int p2), .unset, .unset, .unset, .unset, .unset] [])) _
    refine XS.iloadN X0.here hx rfl (hb hby at_0) rfl ?_
    show Steps p.tables e below (s₁.setTop (mkF m 1 #[.val (.int p1), .val (.int p2), .unset, .unset, .unset, .unset, .unset] [(.int p1)])) _
    refine X0.ldcInt hx hown (mvT hZ (wi hw 0 rfl)) (g := (mkF m 1 #[.val (.int p1), .val (.int p2), .unset, .unset, .unset, .unset, .unset] [(.int p1)])) rfl (hb hby at_1) _ ?_
    show Steps p.tables e below (s₁.setTop (mkF m 3 #[.val (.int p1), .val (.int p2), .unset, .unset, .unset, .unset, .unset] [(.int (2147483647 : Int32)), (.int p1)])) _
    refine XS.iand X0.here hx rfl (hb hby at_3) rfl ?_
    show Steps p.tables e below (s₁.setTop (mkF m 4 #[.val (.int p1), .val (.int p2), .unset, .unset, .unset, .unset, .unset] [(.int (p1 &&& (2147483647 : Int32)))])) _
    refine XS.bipush X0.here hx rfl (hb hby at_4) ?_
    show Steps p.tables e below (s₁.setTop (mkF m 6 #[.val (.int p1), .val (.int p2), .unset, .unset, .unset, .unset, .unset] [(.int (6 : Int32)), (.int (p1 &&& (2147483647 : Int32)))])) _
    refine XS.irem X0.here hx rfl (hb hby at_6) rfl (by decide) ?_
    show Steps p.tables e below (s₁.setTop (mkF m 7 #[.val (.int p1), .val (.int p2), .unset, .unset, .unset, .unset, .unset] [(.int (irm (p1 &&& (2147483647 : Int32)) (6 : Int32)))])) _
    refine XS.istoreN X0.here hx rfl (hb hby at_7) rfl (l' := #[.val (.int p1), .val (.int p2), .val (.int (irm (p1 &&& (2147483647 : Int32)) (6 : Int32))), .unset, .unset, .unset, .unset]) rfl ?_
    show Steps p.tables e below (s₁.setTop (mkF m 8 #[.val (.int p1), .val (.int p2), .val (.int (irm (p1 &&& (2147483647 : Int32)) (6 : Int32))), .unset, .unset, .unset, .unset] [])) _
    refine XS.iloadN X0.here hx rfl (hb hby at_8) rfl ?_
    show Steps p.tables e below (s₁.setTop (mkF m 9 #[.val (.int p1), .val (.int p2), .val (.int (irm (p1 &&& (2147483647 : Int32)) (6 : Int32))), .unset, .unset, .unset, .unset] [(.int (irm (p1 &&& (2147483647 : Int32)) (6 : Int32)))])) _
    refine XS.ifYes X0.here hx rfl (pc0 := 9) (pc' := 22) rfl (hb hby at_9) rfl ((if0 _ _).trans (feq k0).2) (by decide) (by decide) ?_
    show Steps p.tables e below (s₁.setTop (mkF m 22 #[.val (.int p1), .val (.int p2), .val (.int (irm (p1 &&& (2147483647 : Int32)) (6 : Int32))), .unset, .unset, .unset, .unset] [])) _
    refine XS.iloadN X0.here hx rfl (hb hby at_22) rfl ?_
    show Steps p.tables e below (s₁.setTop (mkF m 23 #[.val (.int p1), .val (.int p2), .val (.int (irm (p1 &&& (2147483647 : Int32)) (6 : Int32))), .unset, .unset, .unset, .unset] [(.int (irm (p1 &&& (2147483647 : Int32)) (6 : Int32)))])) _
    refine XS.iconst X0.here hx rfl (hb hby at_23) ?_
    show Steps p.tables e below (s₁.setTop (mkF m 24 #[.val (.int p1), .val (.int p2), .val (.int (irm (p1 &&& (2147483647 : Int32)) (6 : Int32))), .unset, .unset, .unset, .unset] [(.int (1 : Int32)), (.int (irm (p1 &&& (2147483647 : Int32)) (6 : Int32)))])) _
    refine XS.icmpNo X0.here hx rfl (hb hby at_24) rfl (teq k1).2 ?_
    show Steps p.tables e below (s₁.setTop (mkF m 27 #[.val (.int p1), .val (.int p2), .val (.int (irm (p1 &&& (2147483647 : Int32)) (6 : Int32))), .unset, .unset, .unset, .unset] [])) _
    refine st101 _ ?_
    show Steps p.tables e below (T101.setTop (mkF m 30 #[.val (.int p1), .val (.int p2), .val (.int (irm (p1 &&& (2147483647 : Int32)) (6 : Int32))), .unset, .unset, .unset, .unset] [(.ref w)])) _
    refine XS.astoreN X101.here hx rfl (hb hby at_30) rfl rfl (l' := #[.val (.int p1), .val (.int p2), .val (.int (irm (p1 &&& (2147483647 : Int32)) (6 : Int32))), .val (.ref w), .unset, .unset, .unset]) rfl ?_
    show Steps p.tables e below (T101.setTop (mkF m 31 #[.val (.int p1), .val (.int p2), .val (.int (irm (p1 &&& (2147483647 : Int32)) (6 : Int32))), .val (.ref w), .unset, .unset, .unset] [])) _
    refine XS.iconst X101.here hx rfl (hb hby at_31) ?_
    show Steps p.tables e below (T101.setTop (mkF m 32 #[.val (.int p1), .val (.int p2), .val (.int (irm (p1 &&& (2147483647 : Int32)) (6 : Int32))), .val (.ref w), .unset, .unset, .unset] [(.int (5 : Int32))])) _
    refine XS.istore X101.here hx rfl (hb hby at_32) rfl (l' := #[.val (.int p1), .val (.int p2), .val (.int (irm (p1 &&& (2147483647 : Int32)) (6 : Int32))), .val (.ref w), .val (.int (5 : Int32)), .unset, .unset]) rfl ?_
    show Steps p.tables e below (T101.setTop (mkF m 34 #[.val (.int p1), .val (.int p2), .val (.int (irm (p1 &&& (2147483647 : Int32)) (6 : Int32))), .val (.ref w), .val (.int (5 : Int32)), .unset, .unset] [])) _
    refine XS.goto X101.here hx rfl (pc0 := 34) (pc' := 90) rfl (hb hby at_34) (by decide) (by decide) ?_
    show Steps p.tables e below (T101.setTop (mkF m 90 #[.val (.int p1), .val (.int p2), .val (.int (irm (p1 &&& (2147483647 : Int32)) (6 : Int32))), .val (.ref w), .val (.int (5 : Int32)), .unset, .unset] [])) _
    refine XS.iloadN X101.here hx rfl (hb hby at_90) rfl ?_
    show Steps p.tables e below (T101.setTop (mkF m 91 #[.val (.int p1), .val (.int p2), .val (.int (irm (p1 &&& (2147483647 : Int32)) (6 : Int32))), .val (.ref w), .val (.int (5 : Int32)), .unset, .unset] [(.int p2)])) _
    refine XS.ifNo X101.here hx rfl (hb hby at_91) rfl ((if0 _ _).trans (tlt s1).2.1) ?_
    show Steps p.tables e below (T101.setTop (mkF m 94 #[.val (.int p1), .val (.int p2), .val (.int (irm (p1 &&& (2147483647 : Int32)) (6 : Int32))), .val (.ref w), .val (.int (5 : Int32)), .unset, .unset] [])) _
    refine XS.iconst X101.here hx rfl (hb hby at_94) ?_
    show Steps p.tables e below (T101.setTop (mkF m 95 #[.val (.int p1), .val (.int p2), .val (.int (irm (p1 &&& (2147483647 : Int32)) (6 : Int32))), .val (.ref w), .val (.int (5 : Int32)), .unset, .unset] [(.int (0 : Int32))])) _
    refine XS.istore X101.here hx rfl (hb hby at_95) rfl (l' := #[.val (.int p1), .val (.int p2), .val (.int (irm (p1 &&& (2147483647 : Int32)) (6 : Int32))), .val (.ref w), .val (.int (5 : Int32)), .val (.int (0 : Int32)), .unset]) rfl ?_
    show Steps p.tables e below (T101.setTop (mkF m 97 #[.val (.int p1), .val (.int p2), .val (.int (irm (p1 &&& (2147483647 : Int32)) (6 : Int32))), .val (.ref w), .val (.int (5 : Int32)), .val (.int (0 : Int32)), .unset] [])) _
    refine XS.goto X101.here hx rfl (pc0 := 97) (pc' := 113) rfl (hb hby at_97) (by decide) (by decide) ?_
    show Steps p.tables e below (T101.setTop (mkF m 113 #[.val (.int p1), .val (.int p2), .val (.int (irm (p1 &&& (2147483647 : Int32)) (6 : Int32))), .val (.ref w), .val (.int (5 : Int32)), .val (.int (0 : Int32)), .unset] [])) _
    refine XS.iload X101.here hx rfl (hb hby at_113) rfl ?_
    show Steps p.tables e below (T101.setTop (mkF m 115 #[.val (.int p1), .val (.int p2), .val (.int (irm (p1 &&& (2147483647 : Int32)) (6 : Int32))), .val (.ref w), .val (.int (5 : Int32)), .val (.int (0 : Int32)), .unset] [(.int (5 : Int32))])) _
    refine XS.iload X101.here hx rfl (hb hby at_115) rfl ?_
    show Steps p.tables e below (T101.setTop (mkF m 117 #[.val (.int p1), .val (.int p2), .val (.int (irm (p1 &&& (2147483647 : Int32)) (6 : Int32))), .val (.ref w), .val (.int (5 : Int32)), .val (.int (0 : Int32)), .unset] [(.int (0 : Int32)), (.int (5 : Int32))])) _
    refine XS.ishr X101.here hx rfl (hb hby at_117) rfl ?_
    show Steps p.tables e below (T101.setTop (mkF m 118 #[.val (.int p1), .val (.int p2), .val (.int (irm (p1 &&& (2147483647 : Int32)) (6 : Int32))), .val (.ref w), .val (.int (5 : Int32)), .val (.int (0 : Int32)), .unset] [(.int ((5 : Int32) >>> ((0 : Int32) &&& 31)))])) _
    refine XS.iconst X101.here hx rfl (hb hby at_118) ?_
    show Steps p.tables e below (T101.setTop (mkF m 119 #[.val (.int p1), .val (.int p2), .val (.int (irm (p1 &&& (2147483647 : Int32)) (6 : Int32))), .val (.ref w), .val (.int (5 : Int32)), .val (.int (0 : Int32)), .unset] [(.int (1 : Int32)), (.int ((5 : Int32) >>> ((0 : Int32) &&& 31)))])) _
    refine XS.iand X101.here hx rfl (hb hby at_119) rfl ?_
    show Steps p.tables e below (T101.setTop (mkF m 120 #[.val (.int p1), .val (.int p2), .val (.int (irm (p1 &&& (2147483647 : Int32)) (6 : Int32))), .val (.ref w), .val (.int (5 : Int32)), .val (.int (0 : Int32)), .unset] [(.int (((5 : Int32) >>> ((0 : Int32) &&& 31)) &&& (1 : Int32)))])) _
    refine XS.ifNo X101.here hx rfl (hb hby at_120) rfl ((if0 _ _).trans (feq (by decide : ¬ ((((5 : Int32) >>> ((0 : Int32) &&& 31)) &&& (1 : Int32)) = (0 : Int32)))).1) ?_
    show Steps p.tables e below (T101.setTop (mkF m 123 #[.val (.int p1), .val (.int p2), .val (.int (irm (p1 &&& (2147483647 : Int32)) (6 : Int32))), .val (.ref w), .val (.int (5 : Int32)), .val (.int (0 : Int32)), .unset] [])) _
    refine XS.iconst X101.here hx rfl (hb hby at_123) ?_
    show Steps p.tables e below (T101.setTop (mkF m 124 #[.val (.int p1), .val (.int p2), .val (.int (irm (p1 &&& (2147483647 : Int32)) (6 : Int32))), .val (.ref w), .val (.int (5 : Int32)), .val (.int (0 : Int32)), .unset] [(.int (1 : Int32))])) _
    refine XS.goto X101.here hx rfl (pc0 := 124) (pc' := 128) rfl (hb hby at_124) (by decide) (by decide) ?_
    show Steps p.tables e below (T101.setTop (mkF m 128 #[.val (.int p1), .val (.int p2), .val (.int (irm (p1 &&& (2147483647 : Int32)) (6 : Int32))), .val (.ref w), .val (.int (5 : Int32)), .val (.int (0 : Int32)), .unset] [(.int (1 : Int32))])) _
    refine XS.istore X101.here hx rfl (hb hby at_128) rfl (l' := #[.val (.int p1), .val (.int p2), .val (.int (irm (p1 &&& (2147483647 : Int32)) (6 : Int32))), .val (.ref w), .val (.int (5 : Int32)), .val (.int (0 : Int32)), .val (.int (1 : Int32))]) rfl ?_
    show Steps p.tables e below (T101.setTop (mkF m 130 #[.val (.int p1), .val (.int p2), .val (.int (irm (p1 &&& (2147483647 : Int32)) (6 : Int32))), .val (.ref w), .val (.int (5 : Int32)), .val (.int (0 : Int32)), .val (.int (1 : Int32))] [])) _
    refine XS.aloadN X101.here hx rfl (hb hby at_130) rfl rfl ?_
    show Steps p.tables e below (T101.setTop (mkF m 131 #[.val (.int p1), .val (.int p2), .val (.int (irm (p1 &&& (2147483647 : Int32)) (6 : Int32))), .val (.ref w), .val (.int (5 : Int32)), .val (.int (0 : Int32)), .val (.int (1 : Int32))] [(.ref w)])) _
    refine XS.iloadN X101.here hx rfl (hb hby at_131) rfl ?_
    show Steps p.tables e below (T101.setTop (mkF m 132 #[.val (.int p1), .val (.int p2), .val (.int (irm (p1 &&& (2147483647 : Int32)) (6 : Int32))), .val (.ref w), .val (.int (5 : Int32)), .val (.int (0 : Int32)), .val (.int (1 : Int32))] [(.int p2), (.ref w)])) _
    refine st102.trans ?_
    show Steps p.tables e below (T102.setTop (mkF m 135 #[.val (.int p1), .val (.int p2), .val (.int (irm (p1 &&& (2147483647 : Int32)) (6 : Int32))), .val (.ref w), .val (.int (5 : Int32)), .val (.int (0 : Int32)), .val (.int (1 : Int32))] [(.int (1 : Int32))])) _
    refine XS.iload X102.here hx rfl (hb hby at_135) rfl ?_
    show Steps p.tables e below (T102.setTop (mkF m 137 #[.val (.int p1), .val (.int p2), .val (.int (irm (p1 &&& (2147483647 : Int32)) (6 : Int32))), .val (.ref w), .val (.int (5 : Int32)), .val (.int (0 : Int32)), .val (.int (1 : Int32))] [(.int (1 : Int32)), (.int (1 : Int32))])) _
    refine XS.icmpNo X102.here hx rfl (hb hby at_137) rfl (teq (by decide : (1 : Int32) = (1 : Int32))).2 ?_
    show Steps p.tables e below (T102.setTop (mkF m 140 #[.val (.int p1), .val (.int p2), .val (.int (irm (p1 &&& (2147483647 : Int32)) (6 : Int32))), .val (.ref w), .val (.int (5 : Int32)), .val (.int (0 : Int32)), .val (.int (1 : Int32))] [])) _
    refine XS.iconst X102.here hx rfl (hb hby at_140) ?_
    show Steps p.tables e below (T102.setTop (mkF m 141 #[.val (.int p1), .val (.int p2), .val (.int (irm (p1 &&& (2147483647 : Int32)) (6 : Int32))), .val (.ref w), .val (.int (5 : Int32)), .val (.int (0 : Int32)), .val (.int (1 : Int32))] [(.int (1 : Int32))])) _
    refine XS.goto X102.here hx rfl (pc0 := 141) (pc' := 145) rfl (hb hby at_141) (by decide) (by decide) ?_
    show Steps p.tables e below (T102.setTop (mkF m 145 #[.val (.int p1), .val (.int p2), .val (.int (irm (p1 &&& (2147483647 : Int32)) (6 : Int32))), .val (.ref w), .val (.int (5 : Int32)), .val (.int (0 : Int32)), .val (.int (1 : Int32))] [(.int (1 : Int32))])) _
    exact retN X102 hx (t := .boolean) Bd.returns (by simp) (hb hby at_145) hr
  · show Q0 h0 n0 _ T102.heap _
    rw [e102]
    exact ⟨rfl, N102⟩
set_option maxRecDepth 65536 in
set_option maxHeartbeats 40000000 in
theorem rm0_1e (l : Launch) (Z : State) (a0 : Array Value) (hw : ∀ d ∈ tables_1, d.before a0 Z = true) (ws : List Jvm.Cond) (p1 p2 : Int32) (w : Addr) (h0 : Heap) (n0 : Nat) (O0 : Old Z n0 h0) (S : Sta Z Z.heap "com/example/plugroot/plugroot/sql/Comparison" "NOT_EQUAL" "Lcom/example/plugroot/plugroot/sql/Comparison;" (.ref w)) (E : Exa Z Z.heap w "com/example/plugroot/plugroot/sql/Comparison") (F_o : Fld Z Z.heap w "java/lang/Enum" "ordinal" "I" (.int 1)) (k0 : ¬ ((irm (p1 &&& (2147483647 : Int32)) (6 : Int32)) = 0)) (k1 : (irm (p1 &&& (2147483647 : Int32)) (6 : Int32)) = 1) (s1 : ¬ (p2 < 0)) (s2 : p2 = 0) :
    MetFree l x (head1 (Jvm.Cond.code x code maxLocals ret :: ws) room_1) (fun a_ U => a_ = #[(.int p1), (.int p2)] ∧ Z.Warmed39 U.vm ∧ U.heap = h0) (fun _ _ _ _ _ => True) (fun _ U o U' => ∃ v L, o = .returned v ∧ Q0 h0 n0 v U'.heap L ∧ FrameEnd U o U' L room_1.cells room_1.slots) := by
  refine MetFree.of_bodySF (plainFor_of_name pn_2) hisR ?_
  intro p e s m args below meth c s₁ Bd hml0 hP hK
  obtain ⟨rfl, hZ, hh⟩ := hP
  have hx := Bd.exec
  have hby := Bd.bytes
  have hml : c.maxLocals = 7 := hml0
  have hown : s.vm.findClass "com/example/plugroot/plugroot/sql/ComparisonHoldsPinLaw" = some m.cls := findClass_of_methodNamed Bd.named
  have hnm := (name_of_methodNamed Bd.named Bd.method).1
  have X0 : Stand p l e room_1 s m #[(.int p1), (.int p2)] below meth c s₁ [] 0 0 := Stand.of_body Bd
  have e0 : s₁.heap = h0 := by rw [← hh, Bd.state]; rfl
  have N0 := Fr.nil n0
  have pre0 : ∀ tg, Steps p.tables e below (s₁.setTop (mkF m 0 #[.val (.int p1), .val (.int p2), .unset, .unset, .unset, .unset, .unset] [])) tg → Steps p.tables e below (s₁.setTop (entryFrame m #[(.int p1), (.int p2)] maxLocals)) tg := fun tg kq => castTop (ef_II_7m m p1 p2) kq
  obtain ⟨T101, X101, e101, st101⟩ := getS2 X0 hx hZ hown (host := "") (Or.inl (wi hw 22 rfl)) Via.refl e0 (S.ext O0.2) (g := (mkF m 27 #[.val (.int p1), .val (.int p2), .val (.int (irm (p1 &&& (2147483647 : Int32)) (6 : Int32))), .unset, .unset, .unset, .unset] [])) rfl (hb hby at_27)
  obtain ⟨cq102, kq102, q102a, q102b, q102c⟩ := isOf hZ e101 (E.ext O0.2)
  obtain ⟨_, _, ⟨T102, L102, k102, n102⟩, -, X102, ⟨Lc102, hQ102, l102, y102, z102⟩, st102⟩ := X101.virtualBack hx (y := (⟨"com/example/plugroot/plugroot/sql/Comparison", "holds", "(I)Z"⟩ : MethodName)) (z := (⟨"com/example/plugroot/plugroot/sql/Comparison", "holds", "(I)Z"⟩ : MethodName)) hown (mvT hZ (wi hw 4 rfl)) (mvT hZ (wi hw 5 rfl)) (notFace_of_selects (args := #[]) (mvT hZ (wi hw 7 rfl))) (mvT hZ (wi hw 7 rfl)) (mvT hZ (wi hw 6 rfl)) (by decide) (backOf (W := 0) (rm1_1t l Z a0 hw [] w p2 h0 n0 O0 F_o E s2) hZ (wi hw 8 rfl) (wi hw 2 rfl) (by decide) (by decide)) q102a q102c (g := (mkF m 132 #[.val (.int p1), .val (.int p2), .val (.int (irm (p1 &&& (2147483647 : Int32)) (6 : Int32))), .val (.ref w), .val (.int (5 : Int32)), .val (.int (1 : Int32)), .val (.int (0 : Int32))] [(.int p2), (.ref w)])) rfl (by rw [hml]; rfl) (Steps.refl _) (argsL := [(.int p2)]) (rest := []) (lenOf pd_1 rfl) rfl (by show 2 * 0 + _ ≤ _; exact Nat.le_of_eq rfl) (hb hby at_132) (fun _ _ => ⟨rfl, e101, (by decide : 0 + 0 ≤ _), (by decide : 0 + 0 ≤ _)⟩)
  dsimp only [Pt.U, Pt.locs, Pt.cells, Pt.slots] at X102 l102 y102 z102 st102 hQ102
  subst l102 y102 z102
  obtain ⟨rfl, N102q, hh102⟩ := hQ102
  have e102 : T102.heap = h0 := hh102
  have N102 := Fr.app N0 N102q
  obtain ⟨fs, hr, hrun, hended, hW, hsame⟩ := X102.leave (v := some (.int (1 : Int32))) (fun h => by rw [Bd.returns] at h; cases h)
  refine ⟨_, _, pre0 _ ?_, hrun, hended, _, _, rfl, ?_, ⟨_, rfl⟩, hW, hsame.mono (by decide) (by decide)⟩
  · show Steps p.tables e below (s₁.setTop (mkF m 0 #[.val (.int p1), .val (.int p2), .unset, .unset, .unset, .unset, .unset] [])) _
    refine XS.iloadN X0.here hx rfl (hb hby at_0) rfl ?_
    show Steps p.tables e below (s₁.setTop (mkF m 1 #[.val (.int p1), .val (.int p2), .unset, .unset, .unset, .unset, .unset] [(.int p1)])) _
    refine X0.ldcInt hx hown (mvT hZ (wi hw 0 rfl)) (g := (mkF m 1 #[.val (.int p1), .val (.int p2), .unset, .unset, .unset, .unset, .unset] [(.int p1)])) rfl (hb hby at_1) _ ?_
    show Steps p.tables e below (s₁.setTop (mkF m 3 #[.val (.int p1), .val (.int p2), .unset, .unset, .unset, .unset, .unset] [(.int (2147483647 : Int32)), (.int p1)])) _
    refine XS.iand X0.here hx rfl (hb hby at_3) rfl ?_
    show Steps p.tables e below (s₁.setTop (mkF m 4 #[.val (.int p1), .val (.int p2), .unset, .unset, .unset, .unset, .unset] [(.int (p1 &&& (2147483647 : Int32)))])) _
    refine XS.bipush X0.here hx rfl (hb hby at_4) ?_
    show Steps p.tables e below (s₁.setTop (mkF m 6 #[.val (.int p1), .val (.int p2), .unset, .unset, .unset, .unset, .unset] [(.int (6 : Int32)), (.int (p1 &&& (2147483647 : Int32)))])) _
    refine XS.irem X0.here hx rfl (hb hby at_6) rfl (by decide) ?_
    show Steps p.tables e below (s₁.setTop (mkF m 7 #[.val (.int p1), .val (.int p2), .unset, .unset, .unset, .unset, .unset] [(.int (irm (p1 &&& (2147483647 : Int32)) (6 : Int32)))])) _
    refine XS.istoreN X0.here hx rfl (hb hby at_7) rfl (l' := #[.val (.int p1), .val (.int p2), .val (.int (irm (p1 &&& (2147483647 : Int32)) (6 : Int32))), .unset, .unset, .unset, .unset]) rfl ?_
    show Steps p.tables e below (s₁.setTop (mkF m 8 #[.val (.int p1), .val (.int p2), .val (.int (irm (p1 &&& (2147483647 : Int32)) (6 : Int32))), .unset, .unset, .unset, .unset] [])) _
    refine XS.iloadN X0.here hx rfl (hb hby at_8) rfl ?_
    show Steps p.tables e below (s₁.setTop (mkF m 9 #[.val (.int p1), .val (.int p2), .val (.int (irm (p1 &&& (2147483647 : Int32)) (6 : Int32))), .unset, .unset, .unset, .unset] [(.int (irm (p1 &&& (2147483647 : Int32)) (6 : Int32)))])) _
    refine XS.ifYes X0.here hx rfl (pc0 := 9) (pc' := 22) rfl (hb hby at_9) rfl ((if0 _ _).trans (feq k0).2) (by decide) (by decide) ?_
    show Steps p.tables e below (s₁.setTop (mkF m 22 #[.val (.int p1), .val (.int p2), .val (.int (irm (p1 &&& (2147483647 : Int32)) (6 : Int32))), .unset, .unset, .unset, .unset] [])) _
    refine XS.iloadN X0.here hx rfl (hb hby at_22) rfl ?_
    show Steps p.tables e below (s₁.setTop (mkF m 23 #[.val (.int p1), .val (.int p2), .val (.int (irm (p1 &&& (2147483647 : Int32)) (6 : Int32))), .unset, .unset, .unset, .unset] [(.int (irm (p1 &&& (2147483647 : Int32)) (6 : Int32)))])) _
    refine XS.iconst X0.here hx rfl (hb hby at_23) ?_
    show Steps p.tables e below (s₁.setTop (mkF m 24 #[.val (.int p1), .val (.int p2), .val (.int (irm (p1 &&& (2147483647 : Int32)) (6 : Int32))), .unset, .unset, .unset, .unset] [(.int (1 : Int32)), (.int (irm (p1 &&& (2147483647 : Int32)) (6 : Int32)))])) _
    refine XS.icmpNo X0.here hx rfl (hb hby at_24) rfl (teq k1).2 ?_
    show Steps p.tables e below (s₁.setTop (mkF m 27 #[.val (.int p1), .val (.int p2), .val (.int (irm (p1 &&& (2147483647 : Int32)) (6 : Int32))), .unset, .unset, .unset, .unset] [])) _
    refine st101 _ ?_
    show Steps p.tables e below (T101.setTop (mkF m 30 #[.val (.int p1), .val (.int p2), .val (.int (irm (p1 &&& (2147483647 : Int32)) (6 : Int32))), .unset, .unset, .unset, .unset] [(.ref w)])) _
    refine XS.astoreN X101.here hx rfl (hb hby at_30) rfl rfl (l' := #[.val (.int p1), .val (.int p2), .val (.int (irm (p1 &&& (2147483647 : Int32)) (6 : Int32))), .val (.ref w), .unset, .unset, .unset]) rfl ?_
    show Steps p.tables e below (T101.setTop (mkF m 31 #[.val (.int p1), .val (.int p2), .val (.int (irm (p1 &&& (2147483647 : Int32)) (6 : Int32))), .val (.ref w), .unset, .unset, .unset] [])) _
    refine XS.iconst X101.here hx rfl (hb hby at_31) ?_
    show Steps p.tables e below (T101.setTop (mkF m 32 #[.val (.int p1), .val (.int p2), .val (.int (irm (p1 &&& (2147483647 : Int32)) (6 : Int32))), .val (.ref w), .unset, .unset, .unset] [(.int (5 : Int32))])) _
    refine XS.istore X101.here hx rfl (hb hby at_32) rfl (l' := #[.val (.int p1), .val (.int p2), .val (.int (irm (p1 &&& (2147483647 : Int32)) (6 : Int32))), .val (.ref w), .val (.int (5 : Int32)), .unset, .unset]) rfl ?_
    show Steps p.tables e below (T101.setTop (mkF m 34 #[.val (.int p1), .val (.int p2), .val (.int (irm (p1 &&& (2147483647 : Int32)) (6 : Int32))), .val (.ref w), .val (.int (5 : Int32)), .unset, .unset] [])) _
    refine XS.goto X101.here hx rfl (pc0 := 34) (pc' := 90) rfl (hb hby at_34) (by decide) (by decide) ?_
    show Steps p.tables e below (T101.setTop (mkF m 90 #[.val (.int p1), .val (.int p2), .val (.int (irm (p1 &&& (2147483647 : Int32)) (6 : Int32))), .val (.ref w), .val (.int (5 : Int32)), .unset, .unset] [])) _
    refine XS.iloadN X101.here hx rfl (hb hby at_90) rfl ?_
    show Steps p.tables e below (T101.setTop (mkF m 91 #[.val (.int p1), .val (.int p2), .val (.int (irm (p1 &&& (2147483647 : Int32)) (6 : Int32))), .val (.ref w), .val (.int (5 : Int32)), .unset, .unset] [(.int p2)])) _
    refine XS.ifYes X101.here hx rfl (pc0 := 91) (pc' := 100) rfl (hb hby at_91) rfl ((if0 _ _).trans (flt s1).2.1) (by decide) (by decide) ?_
    show Steps p.tables e below (T101.setTop (mkF m 100 #[.val (.int p1), .val (.int p2), .val (.int (irm (p1 &&& (2147483647 : Int32)) (6 : Int32))), .val (.ref w), .val (.int (5 : Int32)), .unset, .unset] [])) _
    refine XS.iloadN X101.here hx rfl (hb hby at_100) rfl ?_
    show Steps p.tables e below (T101.setTop (mkF m 101 #[.val (.int p1), .val (.int p2), .val (.int (irm (p1 &&& (2147483647 : Int32)) (6 : Int32))), .val (.ref w), .val (.int (5 : Int32)), .unset, .unset] [(.int p2)])) _
    refine XS.ifNo X101.here hx rfl (hb hby at_101) rfl ((if0 _ _).trans (teq s2).2) ?_
    show Steps p.tables e below (T101.setTop (mkF m 104 #[.val (.int p1), .val (.int p2), .val (.int (irm (p1 &&& (2147483647 : Int32)) (6 : Int32))), .val (.ref w), .val (.int (5 : Int32)), .unset, .unset] [])) _
    refine XS.iconst X101.here hx rfl (hb hby at_104) ?_
    show Steps p.tables e below (T101.setTop (mkF m 105 #[.val (.int p1), .val (.int p2), .val (.int (irm (p1 &&& (2147483647 : Int32)) (6 : Int32))), .val (.ref w), .val (.int (5 : Int32)), .unset, .unset] [(.int (1 : Int32))])) _
    refine XS.istore X101.here hx rfl (hb hby at_105) rfl (l' := #[.val (.int p1), .val (.int p2), .val (.int (irm (p1 &&& (2147483647 : Int32)) (6 : Int32))), .val (.ref w), .val (.int (5 : Int32)), .val (.int (1 : Int32)), .unset]) rfl ?_
    show Steps p.tables e below (T101.setTop (mkF m 107 #[.val (.int p1), .val (.int p2), .val (.int (irm (p1 &&& (2147483647 : Int32)) (6 : Int32))), .val (.ref w), .val (.int (5 : Int32)), .val (.int (1 : Int32)), .unset] [])) _
    refine XS.goto X101.here hx rfl (pc0 := 107) (pc' := 113) rfl (hb hby at_107) (by decide) (by decide) ?_
    show Steps p.tables e below (T101.setTop (mkF m 113 #[.val (.int p1), .val (.int p2), .val (.int (irm (p1 &&& (2147483647 : Int32)) (6 : Int32))), .val (.ref w), .val (.int (5 : Int32)), .val (.int (1 : Int32)), .unset] [])) _
    refine XS.iload X101.here hx rfl (hb hby at_113) rfl ?_
    show Steps p.tables e below (T101.setTop (mkF m 115 #[.val (.int p1), .val (.int p2), .val (.int (irm (p1 &&& (2147483647 : Int32)) (6 : Int32))), .val (.ref w), .val (.int (5 : Int32)), .val (.int (1 : Int32)), .unset] [(.int (5 : Int32))])) _
    refine XS.iload X101.here hx rfl (hb hby at_115) rfl ?_
    show Steps p.tables e below (T101.setTop (mkF m 117 #[.val (.int p1), .val (.int p2), .val (.int (irm (p1 &&& (2147483647 : Int32)) (6 : Int32))), .val (.ref w), .val (.int (5 : Int32)), .val (.int (1 : Int32)), .unset] [(.int (1 : Int32)), (.int (5 : Int32))])) _
    refine XS.ishr X101.here hx rfl (hb hby at_117) rfl ?_
    show Steps p.tables e below (T101.setTop (mkF m 118 #[.val (.int p1), .val (.int p2), .val (.int (irm (p1 &&& (2147483647 : Int32)) (6 : Int32))), .val (.ref w), .val (.int (5 : Int32)), .val (.int (1 : Int32)), .unset] [(.int ((5 : Int32) >>> ((1 : Int32) &&& 31)))])) _
    refine XS.iconst X101.here hx rfl (hb hby at_118) ?_
    show Steps p.tables e below (T101.setTop (mkF m 119 #[.val (.int p1), .val (.int p2), .val (.int (irm (p1 &&& (2147483647 : Int32)) (6 : Int32))), .val (.ref w), .val (.int (5 : Int32)), .val (.int (1 : Int32)), .unset] [(.int (1 : Int32)), (.int ((5 : Int32) >>> ((1 : Int32) &&& 31)))])) _
    refine XS.iand X101.here hx rfl (hb hby at_119) rfl ?_
    show Steps p.tables e below (T101.setTop (mkF m 120 #[.val (.int p1), .val (.int p2), .val (.int (irm (p1 &&& (2147483647 : Int32)) (6 : Int32))), .val (.ref w), .val (.int (5 : Int32)), .val (.int (1 : Int32)), .unset] [(.int (((5 : Int32) >>> ((1 : Int32) &&& 31)) &&& (1 : Int32)))])) _
    refine XS.ifYes X101.here hx rfl (pc0 := 120) (pc' := 127) rfl (hb hby at_120) rfl ((if0 _ _).trans (teq (by decide : (((5 : Int32) >>> ((1 : Int32) &&& 31)) &&& (1 : Int32)) = (0 : Int32))).1) (by decide) (by decide) ?_
    show Steps p.tables e below (T101.setTop (mkF m 127 #[.val (.int p1), .val (.int p2), .val (.int (irm (p1 &&& (2147483647 : Int32)) (6 : Int32))), .val (.ref w), .val (.int (5 : Int32)), .val (.int (1 : Int32)), .unset] [])) _
    refine XS.iconst X101.here hx rfl (hb hby at_127) ?_
    show Steps p.tables e below (T101.setTop (mkF m 128 #[.val (.int p1), .val (.int p2), .val (.int (irm (p1 &&& (2147483647 : Int32)) (6 : Int32))), .val (.ref w), .val (.int (5 : Int32)), .val (.int (1 : Int32)), .unset] [(.int (0 : Int32))])) _
    refine XS.istore X101.here hx rfl (hb hby at_128) rfl (l' := #[.val (.int p1), .val (.int p2), .val (.int (irm (p1 &&& (2147483647 : Int32)) (6 : Int32))), .val (.ref w), .val (.int (5 : Int32)), .val (.int (1 : Int32)), .val (.int (0 : Int32))]) rfl ?_
    show Steps p.tables e below (T101.setTop (mkF m 130 #[.val (.int p1), .val (.int p2), .val (.int (irm (p1 &&& (2147483647 : Int32)) (6 : Int32))), .val (.ref w), .val (.int (5 : Int32)), .val (.int (1 : Int32)), .val (.int (0 : Int32))] [])) _
    refine XS.aloadN X101.here hx rfl (hb hby at_130) rfl rfl ?_
    show Steps p.tables e below (T101.setTop (mkF m 131 #[.val (.int p1), .val (.int p2), .val (.int (irm (p1 &&& (2147483647 : Int32)) (6 : Int32))), .val (.ref w), .val (.int (5 : Int32)), .val (.int (1 : Int32)), .val (.int (0 : Int32))] [(.ref w)])) _
    refine XS.iloadN X101.here hx rfl (hb hby at_131) rfl ?_
    show Steps p.tables e below (T101.setTop (mkF m 132 #[.val (.int p1), .val (.int p2), .val (.int (irm (p1 &&& (2147483647 : Int32)) (6 : Int32))), .val (.ref w), .val (.int (5 : Int32)), .val (.int (1 : Int32)), .val (.int (0 : Int32))] [(.int p2), (.ref w)])) _
    refine st102.trans ?_
    show Steps p.tables e below (T102.setTop (mkF m 135 #[.val (.int p1), .val (.int p2), .val (.int (irm (p1 &&& (2147483647 : Int32)) (6 : Int32))), .val (.ref w), .val (.int (5 : Int32)), .val (.int (1 : Int32)), .val (.int (0 : Int32))] [(.int (0 : Int32))])) _
    refine XS.iload X102.here hx rfl (hb hby at_135) rfl ?_
    show Steps p.tables e below (T102.setTop (mkF m 137 #[.val (.int p1), .val (.int p2), .val (.int (irm (p1 &&& (2147483647 : Int32)) (6 : Int32))), .val (.ref w), .val (.int (5 : Int32)), .val (.int (1 : Int32)), .val (.int (0 : Int32))] [(.int (0 : Int32)), (.int (0 : Int32))])) _
    refine XS.icmpNo X102.here hx rfl (hb hby at_137) rfl (teq (by decide : (0 : Int32) = (0 : Int32))).2 ?_
    show Steps p.tables e below (T102.setTop (mkF m 140 #[.val (.int p1), .val (.int p2), .val (.int (irm (p1 &&& (2147483647 : Int32)) (6 : Int32))), .val (.ref w), .val (.int (5 : Int32)), .val (.int (1 : Int32)), .val (.int (0 : Int32))] [])) _
    refine XS.iconst X102.here hx rfl (hb hby at_140) ?_
    show Steps p.tables e below (T102.setTop (mkF m 141 #[.val (.int p1), .val (.int p2), .val (.int (irm (p1 &&& (2147483647 : Int32)) (6 : Int32))), .val (.ref w), .val (.int (5 : Int32)), .val (.int (1 : Int32)), .val (.int (0 : Int32))] [(.int (1 : Int32))])) _
    refine XS.goto X102.here hx rfl (pc0 := 141) (pc' := 145) rfl (hb hby at_141) (by decide) (by decide) ?_
    show Steps p.tables e below (T102.setTop (mkF m 145 #[.val (.int p1), .val (.int p2), .val (.int (irm (p1 &&& (2147483647 : Int32)) (6 : Int32))), .val (.ref w), .val (.int (5 : Int32)), .val (.int (1 : Int32)), .val (.int (0 : Int32))] [(.int (1 : Int32))])) _
    exact retN X102 hx (t := .boolean) Bd.returns (by simp) (hb hby at_145) hr
  · show Q0 h0 n0 _ T102.heap _
    rw [e102]
    exact ⟨rfl, N102⟩
set_option maxRecDepth 65536 in
set_option maxHeartbeats 40000000 in
theorem rm0_1g (l : Launch) (Z : State) (a0 : Array Value) (hw : ∀ d ∈ tables_1, d.before a0 Z = true) (ws : List Jvm.Cond) (p1 p2 : Int32) (w : Addr) (h0 : Heap) (n0 : Nat) (O0 : Old Z n0 h0) (S : Sta Z Z.heap "com/example/plugroot/plugroot/sql/Comparison" "NOT_EQUAL" "Lcom/example/plugroot/plugroot/sql/Comparison;" (.ref w)) (E : Exa Z Z.heap w "com/example/plugroot/plugroot/sql/Comparison") (F_o : Fld Z Z.heap w "java/lang/Enum" "ordinal" "I" (.int 1)) (k0 : ¬ ((irm (p1 &&& (2147483647 : Int32)) (6 : Int32)) = 0)) (k1 : (irm (p1 &&& (2147483647 : Int32)) (6 : Int32)) = 1) (s1 : ¬ (p2 < 0)) (s2 : ¬ (p2 = 0)) :
    MetFree l x (head1 (Jvm.Cond.code x code maxLocals ret :: ws) room_1) (fun a_ U => a_ = #[(.int p1), (.int p2)] ∧ Z.Warmed39 U.vm ∧ U.heap = h0) (fun _ _ _ _ _ => True) (fun _ U o U' => ∃ v L, o = .returned v ∧ Q0 h0 n0 v U'.heap L ∧ FrameEnd U o U' L room_1.cells room_1.slots) := by
  refine MetFree.of_bodySF (plainFor_of_name pn_2) hisR ?_
  intro p e s m args below meth c s₁ Bd hml0 hP hK
  obtain ⟨rfl, hZ, hh⟩ := hP
  have hx := Bd.exec
  have hby := Bd.bytes
  have hml : c.maxLocals = 7 := hml0
  have hown : s.vm.findClass "com/example/plugroot/plugroot/sql/ComparisonHoldsPinLaw" = some m.cls := findClass_of_methodNamed Bd.named
  have hnm := (name_of_methodNamed Bd.named Bd.method).1
  have X0 : Stand p l e room_1 s m #[(.int p1), (.int p2)] below meth c s₁ [] 0 0 := Stand.of_body Bd
  have e0 : s₁.heap = h0 := by rw [← hh, Bd.state]; rfl
  have N0 := Fr.nil n0
  have pre0 : ∀ tg, Steps p.tables e below (s₁.setTop (mkF m 0 #[.val (.int p1), .val (.int p2), .unset, .unset, .unset, .unset, .unset] [])) tg → Steps p.tables e below (s₁.setTop (entryFrame m #[(.int p1), (.int p2)] maxLocals)) tg := fun tg kq => castTop (ef_II_7m m p1 p2) kq
  obtain ⟨T101, X101, e101, st101⟩ := getS2 X0 hx hZ hown (host := "") (Or.inl (wi hw 22 rfl)) Via.refl e0 (S.ext O0.2) (g := (mkF m 27 #[.val (.int p1), .val (.int p2), .val (.int (irm (p1 &&& (2147483647 : Int32)) (6 : Int32))), .unset, .unset, .unset, .unset] [])) rfl (hb hby at_27)
  obtain ⟨cq102, kq102, q102a, q102b, q102c⟩ := isOf hZ e101 (E.ext O0.2)
  obtain ⟨_, _, ⟨T102, L102, k102, n102⟩, -, X102, ⟨Lc102, hQ102, l102, y102, z102⟩, st102⟩ := X101.virtualBack hx (y := (⟨"com/example/plugroot/plugroot/sql/Comparison", "holds", "(I)Z"⟩ : MethodName)) (z := (⟨"com/example/plugroot/plugroot/sql/Comparison", "holds", "(I)Z"⟩ : MethodName)) hown (mvT hZ (wi hw 4 rfl)) (mvT hZ (wi hw 5 rfl)) (notFace_of_selects (args := #[]) (mvT hZ (wi hw 7 rfl))) (mvT hZ (wi hw 7 rfl)) (mvT hZ (wi hw 6 rfl)) (by decide) (backOf (W := 0) (rm1_1f l Z a0 hw [] w p2 h0 n0 O0 F_o E s2) hZ (wi hw 8 rfl) (wi hw 2 rfl) (by decide) (by decide)) q102a q102c (g := (mkF m 132 #[.val (.int p1), .val (.int p2), .val (.int (irm (p1 &&& (2147483647 : Int32)) (6 : Int32))), .val (.ref w), .val (.int (5 : Int32)), .val (.int (2 : Int32)), .val (.int (1 : Int32))] [(.int p2), (.ref w)])) rfl (by rw [hml]; rfl) (Steps.refl _) (argsL := [(.int p2)]) (rest := []) (lenOf pd_1 rfl) rfl (by show 2 * 0 + _ ≤ _; exact Nat.le_of_eq rfl) (hb hby at_132) (fun _ _ => ⟨rfl, e101, (by decide : 0 + 0 ≤ _), (by decide : 0 + 0 ≤ _)⟩)
  dsimp only [Pt.U, Pt.locs, Pt.cells, Pt.slots] at X102 l102 y102 z102 st102 hQ102
  subst l102 y102 z102
  obtain ⟨rfl, N102q, hh102⟩ := hQ102
  have e102 : T102.heap = h0 := hh102
  have N102 := Fr.app N0 N102q
  obtain ⟨fs, hr, hrun, hended, hW, hsame⟩ := X102.leave (v := some (.int (1 : Int32))) (fun h => by rw [Bd.returns] at h; cases h)
  refine ⟨_, _, pre0 _ ?_, hrun, hended, _, _, rfl, ?_, ⟨_, rfl⟩, hW, hsame.mono (by decide) (by decide)⟩
  · show Steps p.tables e below (s₁.setTop (mkF m 0 #[.val (.int p1), .val (.int p2), .unset, .unset, .unset, .unset, .unset] [])) _
    refine XS.iloadN X0.here hx rfl (hb hby at_0) rfl ?_
    show Steps p.tables e below (s₁.setTop (mkF m 1 #[.val (.int p1), .val (.int p2), .unset, .unset, .unset, .unset, .unset] [(.int p1)])) _
    refine X0.ldcInt hx hown (mvT hZ (wi hw 0 rfl)) (g := (mkF m 1 #[.val (.int p1), .val (.int p2), .unset, .unset, .unset, .unset, .unset] [(.int p1)])) rfl (hb hby at_1) _ ?_
    show Steps p.tables e below (s₁.setTop (mkF m 3 #[.val (.int p1), .val (.int p2), .unset, .unset, .unset, .unset, .unset] [(.int (2147483647 : Int32)), (.int p1)])) _
    refine XS.iand X0.here hx rfl (hb hby at_3) rfl ?_
    show Steps p.tables e below (s₁.setTop (mkF m 4 #[.val (.int p1), .val (.int p2), .unset, .unset, .unset, .unset, .unset] [(.int (p1 &&& (2147483647 : Int32)))])) _
    refine XS.bipush X0.here hx rfl (hb hby at_4) ?_
    show Steps p.tables e below (s₁.setTop (mkF m 6 #[.val (.int p1), .val (.int p2), .unset, .unset, .unset, .unset, .unset] [(.int (6 : Int32)), (.int (p1 &&& (2147483647 : Int32)))])) _
    refine XS.irem X0.here hx rfl (hb hby at_6) rfl (by decide) ?_
    show Steps p.tables e below (s₁.setTop (mkF m 7 #[.val (.int p1), .val (.int p2), .unset, .unset, .unset, .unset, .unset] [(.int (irm (p1 &&& (2147483647 : Int32)) (6 : Int32)))])) _
    refine XS.istoreN X0.here hx rfl (hb hby at_7) rfl (l' := #[.val (.int p1), .val (.int p2), .val (.int (irm (p1 &&& (2147483647 : Int32)) (6 : Int32))), .unset, .unset, .unset, .unset]) rfl ?_
    show Steps p.tables e below (s₁.setTop (mkF m 8 #[.val (.int p1), .val (.int p2), .val (.int (irm (p1 &&& (2147483647 : Int32)) (6 : Int32))), .unset, .unset, .unset, .unset] [])) _
    refine XS.iloadN X0.here hx rfl (hb hby at_8) rfl ?_
    show Steps p.tables e below (s₁.setTop (mkF m 9 #[.val (.int p1), .val (.int p2), .val (.int (irm (p1 &&& (2147483647 : Int32)) (6 : Int32))), .unset, .unset, .unset, .unset] [(.int (irm (p1 &&& (2147483647 : Int32)) (6 : Int32)))])) _
    refine XS.ifYes X0.here hx rfl (pc0 := 9) (pc' := 22) rfl (hb hby at_9) rfl ((if0 _ _).trans (feq k0).2) (by decide) (by decide) ?_
    show Steps p.tables e below (s₁.setTop (mkF m 22 #[.val (.int p1), .val (.int p2), .val (.int (irm (p1 &&& (2147483647 : Int32)) (6 : Int32))), .unset, .unset, .unset, .unset] [])) _
    refine XS.iloadN X0.here hx rfl (hb hby at_22) rfl ?_
    show Steps p.tables e below (s₁.setTop (mkF m 23 #[.val (.int p1), .val (.int p2), .val (.int (irm (p1 &&& (2147483647 : Int32)) (6 : Int32))), .unset, .unset, .unset, .unset] [(.int (irm (p1 &&& (2147483647 : Int32)) (6 : Int32)))])) _
    refine XS.iconst X0.here hx rfl (hb hby at_23) ?_
    show Steps p.tables e below (s₁.setTop (mkF m 24 #[.val (.int p1), .val (.int p2), .val (.int (irm (p1 &&& (2147483647 : Int32)) (6 : Int32))), .unset, .unset, .unset, .unset] [(.int (1 : Int32)), (.int (irm (p1 &&& (2147483647 : Int32)) (6 : Int32)))])) _
    refine XS.icmpNo X0.here hx rfl (hb hby at_24) rfl (teq k1).2 ?_
    show Steps p.tables e below (s₁.setTop (mkF m 27 #[.val (.int p1), .val (.int p2), .val (.int (irm (p1 &&& (2147483647 : Int32)) (6 : Int32))), .unset, .unset, .unset, .unset] [])) _
    refine st101 _ ?_
    show Steps p.tables e below (T101.setTop (mkF m 30 #[.val (.int p1), .val (.int p2), .val (.int (irm (p1 &&& (2147483647 : Int32)) (6 : Int32))), .unset, .unset, .unset, .unset] [(.ref w)])) _
    refine XS.astoreN X101.here hx rfl (hb hby at_30) rfl rfl (l' := #[.val (.int p1), .val (.int p2), .val (.int (irm (p1 &&& (2147483647 : Int32)) (6 : Int32))), .val (.ref w), .unset, .unset, .unset]) rfl ?_
    show Steps p.tables e below (T101.setTop (mkF m 31 #[.val (.int p1), .val (.int p2), .val (.int (irm (p1 &&& (2147483647 : Int32)) (6 : Int32))), .val (.ref w), .unset, .unset, .unset] [])) _
    refine XS.iconst X101.here hx rfl (hb hby at_31) ?_
    show Steps p.tables e below (T101.setTop (mkF m 32 #[.val (.int p1), .val (.int p2), .val (.int (irm (p1 &&& (2147483647 : Int32)) (6 : Int32))), .val (.ref w), .unset, .unset, .unset] [(.int (5 : Int32))])) _
    refine XS.istore X101.here hx rfl (hb hby at_32) rfl (l' := #[.val (.int p1), .val (.int p2), .val (.int (irm (p1 &&& (2147483647 : Int32)) (6 : Int32))), .val (.ref w), .val (.int (5 : Int32)), .unset, .unset]) rfl ?_
    show Steps p.tables e below (T101.setTop (mkF m 34 #[.val (.int p1), .val (.int p2), .val (.int (irm (p1 &&& (2147483647 : Int32)) (6 : Int32))), .val (.ref w), .val (.int (5 : Int32)), .unset, .unset] [])) _
    refine XS.goto X101.here hx rfl (pc0 := 34) (pc' := 90) rfl (hb hby at_34) (by decide) (by decide) ?_
    show Steps p.tables e below (T101.setTop (mkF m 90 #[.val (.int p1), .val (.int p2), .val (.int (irm (p1 &&& (2147483647 : Int32)) (6 : Int32))), .val (.ref w), .val (.int (5 : Int32)), .unset, .unset] [])) _
    refine XS.iloadN X101.here hx rfl (hb hby at_90) rfl ?_
    show Steps p.tables e below (T101.setTop (mkF m 91 #[.val (.int p1), .val (.int p2), .val (.int (irm (p1 &&& (2147483647 : Int32)) (6 : Int32))), .val (.ref w), .val (.int (5 : Int32)), .unset, .unset] [(.int p2)])) _
    refine XS.ifYes X101.here hx rfl (pc0 := 91) (pc' := 100) rfl (hb hby at_91) rfl ((if0 _ _).trans (flt s1).2.1) (by decide) (by decide) ?_
    show Steps p.tables e below (T101.setTop (mkF m 100 #[.val (.int p1), .val (.int p2), .val (.int (irm (p1 &&& (2147483647 : Int32)) (6 : Int32))), .val (.ref w), .val (.int (5 : Int32)), .unset, .unset] [])) _
    refine XS.iloadN X101.here hx rfl (hb hby at_100) rfl ?_
    show Steps p.tables e below (T101.setTop (mkF m 101 #[.val (.int p1), .val (.int p2), .val (.int (irm (p1 &&& (2147483647 : Int32)) (6 : Int32))), .val (.ref w), .val (.int (5 : Int32)), .unset, .unset] [(.int p2)])) _
    refine XS.ifYes X101.here hx rfl (pc0 := 101) (pc' := 110) rfl (hb hby at_101) rfl ((if0 _ _).trans (feq s2).2) (by decide) (by decide) ?_
    show Steps p.tables e below (T101.setTop (mkF m 110 #[.val (.int p1), .val (.int p2), .val (.int (irm (p1 &&& (2147483647 : Int32)) (6 : Int32))), .val (.ref w), .val (.int (5 : Int32)), .unset, .unset] [])) _
    refine XS.iconst X101.here hx rfl (hb hby at_110) ?_
    show Steps p.tables e below (T101.setTop (mkF m 111 #[.val (.int p1), .val (.int p2), .val (.int (irm (p1 &&& (2147483647 : Int32)) (6 : Int32))), .val (.ref w), .val (.int (5 : Int32)), .unset, .unset] [(.int (2 : Int32))])) _
    refine XS.istore X101.here hx rfl (hb hby at_111) rfl (l' := #[.val (.int p1), .val (.int p2), .val (.int (irm (p1 &&& (2147483647 : Int32)) (6 : Int32))), .val (.ref w), .val (.int (5 : Int32)), .val (.int (2 : Int32)), .unset]) rfl ?_
    show Steps p.tables e below (T101.setTop (mkF m 113 #[.val (.int p1), .val (.int p2), .val (.int (irm (p1 &&& (2147483647 : Int32)) (6 : Int32))), .val (.ref w), .val (.int (5 : Int32)), .val (.int (2 : Int32)), .unset] [])) _
    refine XS.iload X101.here hx rfl (hb hby at_113) rfl ?_
    show Steps p.tables e below (T101.setTop (mkF m 115 #[.val (.int p1), .val (.int p2), .val (.int (irm (p1 &&& (2147483647 : Int32)) (6 : Int32))), .val (.ref w), .val (.int (5 : Int32)), .val (.int (2 : Int32)), .unset] [(.int (5 : Int32))])) _
    refine XS.iload X101.here hx rfl (hb hby at_115) rfl ?_
    show Steps p.tables e below (T101.setTop (mkF m 117 #[.val (.int p1), .val (.int p2), .val (.int (irm (p1 &&& (2147483647 : Int32)) (6 : Int32))), .val (.ref w), .val (.int (5 : Int32)), .val (.int (2 : Int32)), .unset] [(.int (2 : Int32)), (.int (5 : Int32))])) _
    refine XS.ishr X101.here hx rfl (hb hby at_117) rfl ?_
    show Steps p.tables e below (T101.setTop (mkF m 118 #[.val (.int p1), .val (.int p2), .val (.int (irm (p1 &&& (2147483647 : Int32)) (6 : Int32))), .val (.ref w), .val (.int (5 : Int32)), .val (.int (2 : Int32)), .unset] [(.int ((5 : Int32) >>> ((2 : Int32) &&& 31)))])) _
    refine XS.iconst X101.here hx rfl (hb hby at_118) ?_
    show Steps p.tables e below (T101.setTop (mkF m 119 #[.val (.int p1), .val (.int p2), .val (.int (irm (p1 &&& (2147483647 : Int32)) (6 : Int32))), .val (.ref w), .val (.int (5 : Int32)), .val (.int (2 : Int32)), .unset] [(.int (1 : Int32)), (.int ((5 : Int32) >>> ((2 : Int32) &&& 31)))])) _
    refine XS.iand X101.here hx rfl (hb hby at_119) rfl ?_
    show Steps p.tables e below (T101.setTop (mkF m 120 #[.val (.int p1), .val (.int p2), .val (.int (irm (p1 &&& (2147483647 : Int32)) (6 : Int32))), .val (.ref w), .val (.int (5 : Int32)), .val (.int (2 : Int32)), .unset] [(.int (((5 : Int32) >>> ((2 : Int32) &&& 31)) &&& (1 : Int32)))])) _
    refine XS.ifNo X101.here hx rfl (hb hby at_120) rfl ((if0 _ _).trans (feq (by decide : ¬ ((((5 : Int32) >>> ((2 : Int32) &&& 31)) &&& (1 : Int32)) = (0 : Int32)))).1) ?_
    show Steps p.tables e below (T101.setTop (mkF m 123 #[.val (.int p1), .val (.int p2), .val (.int (irm (p1 &&& (2147483647 : Int32)) (6 : Int32))), .val (.ref w), .val (.int (5 : Int32)), .val (.int (2 : Int32)), .unset] [])) _
    refine XS.iconst X101.here hx rfl (hb hby at_123) ?_
    show Steps p.tables e below (T101.setTop (mkF m 124 #[.val (.int p1), .val (.int p2), .val (.int (irm (p1 &&& (2147483647 : Int32)) (6 : Int32))), .val (.ref w), .val (.int (5 : Int32)), .val (.int (2 : Int32)), .unset] [(.int (1 : Int32))])) _
    refine XS.goto X101.here hx rfl (pc0 := 124) (pc' := 128) rfl (hb hby at_124) (by decide) (by decide) ?_
    show Steps p.tables e below (T101.setTop (mkF m 128 #[.val (.int p1), .val (.int p2), .val (.int (irm (p1 &&& (2147483647 : Int32)) (6 : Int32))), .val (.ref w), .val (.int (5 : Int32)), .val (.int (2 : Int32)), .unset] [(.int (1 : Int32))])) _
    refine XS.istore X101.here hx rfl (hb hby at_128) rfl (l' := #[.val (.int p1), .val (.int p2), .val (.int (irm (p1 &&& (2147483647 : Int32)) (6 : Int32))), .val (.ref w), .val (.int (5 : Int32)), .val (.int (2 : Int32)), .val (.int (1 : Int32))]) rfl ?_
    show Steps p.tables e below (T101.setTop (mkF m 130 #[.val (.int p1), .val (.int p2), .val (.int (irm (p1 &&& (2147483647 : Int32)) (6 : Int32))), .val (.ref w), .val (.int (5 : Int32)), .val (.int (2 : Int32)), .val (.int (1 : Int32))] [])) _
    refine XS.aloadN X101.here hx rfl (hb hby at_130) rfl rfl ?_
    show Steps p.tables e below (T101.setTop (mkF m 131 #[.val (.int p1), .val (.int p2), .val (.int (irm (p1 &&& (2147483647 : Int32)) (6 : Int32))), .val (.ref w), .val (.int (5 : Int32)), .val (.int (2 : Int32)), .val (.int (1 : Int32))] [(.ref w)])) _
    refine XS.iloadN X101.here hx rfl (hb hby at_131) rfl ?_
    show Steps p.tables e below (T101.setTop (mkF m 132 #[.val (.int p1), .val (.int p2), .val (.int (irm (p1 &&& (2147483647 : Int32)) (6 : Int32))), .val (.ref w), .val (.int (5 : Int32)), .val (.int (2 : Int32)), .val (.int (1 : Int32))] [(.int p2), (.ref w)])) _
    refine st102.trans ?_
    show Steps p.tables e below (T102.setTop (mkF m 135 #[.val (.int p1), .val (.int p2), .val (.int (irm (p1 &&& (2147483647 : Int32)) (6 : Int32))), .val (.ref w), .val (.int (5 : Int32)), .val (.int (2 : Int32)), .val (.int (1 : Int32))] [(.int (1 : Int32))])) _
    refine XS.iload X102.here hx rfl (hb hby at_135) rfl ?_
    show Steps p.tables e below (T102.setTop (mkF m 137 #[.val (.int p1), .val (.int p2), .val (.int (irm (p1 &&& (2147483647 : Int32)) (6 : Int32))), .val (.ref w), .val (.int (5 : Int32)), .val (.int (2 : Int32)), .val (.int (1 : Int32))] [(.int (1 : Int32)), (.int (1 : Int32))])) _
    refine XS.icmpNo X102.here hx rfl (hb hby at_137) rfl (teq (by decide : (1 : Int32) = (1 : Int32))).2 ?_
    show Steps p.tables e below (T102.setTop (mkF m 140 #[.val (.int p1), .val (.int p2), .val (.int (irm (p1 &&& (2147483647 : Int32)) (6 : Int32))), .val (.ref w), .val (.int (5 : Int32)), .val (.int (2 : Int32)), .val (.int (1 : Int32))] [])) _
    refine XS.iconst X102.here hx rfl (hb hby at_140) ?_
    show Steps p.tables e below (T102.setTop (mkF m 141 #[.val (.int p1), .val (.int p2), .val (.int (irm (p1 &&& (2147483647 : Int32)) (6 : Int32))), .val (.ref w), .val (.int (5 : Int32)), .val (.int (2 : Int32)), .val (.int (1 : Int32))] [(.int (1 : Int32))])) _
    refine XS.goto X102.here hx rfl (pc0 := 141) (pc' := 145) rfl (hb hby at_141) (by decide) (by decide) ?_
    show Steps p.tables e below (T102.setTop (mkF m 145 #[.val (.int p1), .val (.int p2), .val (.int (irm (p1 &&& (2147483647 : Int32)) (6 : Int32))), .val (.ref w), .val (.int (5 : Int32)), .val (.int (2 : Int32)), .val (.int (1 : Int32))] [(.int (1 : Int32))])) _
    exact retN X102 hx (t := .boolean) Bd.returns (by simp) (hb hby at_145) hr
  · show Q0 h0 n0 _ T102.heap _
    rw [e102]
    exact ⟨rfl, N102⟩
set_option maxRecDepth 65536 in
set_option maxHeartbeats 40000000 in
theorem rm0_2l (l : Launch) (Z : State) (a0 : Array Value) (hw : ∀ d ∈ tables_1, d.before a0 Z = true) (ws : List Jvm.Cond) (p1 p2 : Int32) (w : Addr) (h0 : Heap) (n0 : Nat) (O0 : Old Z n0 h0) (S : Sta Z Z.heap "com/example/plugroot/plugroot/sql/Comparison" "LESS" "Lcom/example/plugroot/plugroot/sql/Comparison;" (.ref w)) (E : Exa Z Z.heap w "com/example/plugroot/plugroot/sql/Comparison") (F_o : Fld Z Z.heap w "java/lang/Enum" "ordinal" "I" (.int 2)) (k0 : ¬ ((irm (p1 &&& (2147483647 : Int32)) (6 : Int32)) = 0)) (k1 : ¬ ((irm (p1 &&& (2147483647 : Int32)) (6 : Int32)) = 1)) (k2 : (irm (p1 &&& (2147483647 : Int32)) (6 : Int32)) = 2) (s1 : p2 < 0) :
    MetFree l x (head1 (Jvm.Cond.code x code maxLocals ret :: ws) room_1) (fun a_ U => a_ = #[(.int p1), (.int p2)] ∧ Z.Warmed39 U.vm ∧ U.heap = h0) (fun _ _ _ _ _ => True) (fun _ U o U' => ∃ v L, o = .returned v ∧ Q0 h0 n0 v U'.heap L ∧ FrameEnd U o U' L room_1.cells room_1.slots) := by
  refine MetFree.of_bodySF (plainFor_of_name pn_2) hisR ?_
  intro p e s m args below meth c s₁ Bd hml0 hP hK
  obtain ⟨rfl, hZ, hh⟩ := hP
  have hx := Bd.exec
  have hby := Bd.bytes
  have hml : c.maxLocals = 7 := hml0
  have hown : s.vm.findClass "com/example/plugroot/plugroot/sql/ComparisonHoldsPinLaw" = some m.cls := findClass_of_methodNamed Bd.named
  have hnm := (name_of_methodNamed Bd.named Bd.method).1
  have X0 : Stand p l e room_1 s m #[(.int p1), (.int p2)] below meth c s₁ [] 0 0 := Stand.of_body Bd
  have e0 : s₁.heap = h0 := by rw [← hh, Bd.state]; rfl
  have N0 := Fr.nil n0
  have pre0 : ∀ tg, Steps p.tables e below (s₁.setTop (mkF m 0 #[.val (.int p1), .val (.int p2), .unset, .unset, .unset, .unset, .unset] [])) tg → Steps p.tables e below (s₁.setTop (entryFrame m #[(.int p1), (.int p2)] maxLocals)) tg := fun tg kq => castTop (ef_II_7m m p1 p2) kq
  obtain ⟨T101, X101, e101, st101⟩ := getS2 X0 hx hZ hown (host := "") (Or.inl (wi hw 18 rfl)) Via.refl e0 (S.ext O0.2) (g := (mkF m 42 #[.val (.int p1), .val (.int p2), .val (.int (irm (p1 &&& (2147483647 : Int32)) (6 : Int32))), .unset, .unset, .unset, .unset] [])) rfl (hb hby at_42)
  obtain ⟨cq102, kq102, q102a, q102b, q102c⟩ := isOf hZ e101 (E.ext O0.2)
  obtain ⟨_, _, ⟨T102, L102, k102, n102⟩, -, X102, ⟨Lc102, hQ102, l102, y102, z102⟩, st102⟩ := X101.virtualBack hx (y := (⟨"com/example/plugroot/plugroot/sql/Comparison", "holds", "(I)Z"⟩ : MethodName)) (z := (⟨"com/example/plugroot/plugroot/sql/Comparison", "holds", "(I)Z"⟩ : MethodName)) hown (mvT hZ (wi hw 4 rfl)) (mvT hZ (wi hw 5 rfl)) (notFace_of_selects (args := #[]) (mvT hZ (wi hw 7 rfl))) (mvT hZ (wi hw 7 rfl)) (mvT hZ (wi hw 6 rfl)) (by decide) (backOf (W := 0) (rm1_2f l Z a0 hw [] w p2 h0 n0 O0 F_o E s1) hZ (wi hw 8 rfl) (wi hw 2 rfl) (by decide) (by decide)) q102a q102c (g := (mkF m 132 #[.val (.int p1), .val (.int p2), .val (.int (irm (p1 &&& (2147483647 : Int32)) (6 : Int32))), .val (.ref w), .val (.int (1 : Int32)), .val (.int (0 : Int32)), .val (.int (1 : Int32))] [(.int p2), (.ref w)])) rfl (by rw [hml]; rfl) (Steps.refl _) (argsL := [(.int p2)]) (rest := []) (lenOf pd_1 rfl) rfl (by show 2 * 0 + _ ≤ _; exact Nat.le_of_eq rfl) (hb hby at_132) (fun _ _ => ⟨rfl, e101, (by decide : 0 + 0 ≤ _), (by decide : 0 + 0 ≤ _)⟩)
  dsimp only [Pt.U, Pt.locs, Pt.cells, Pt.slots] at X102 l102 y102 z102 st102 hQ102
  subst l102 y102 z102
  obtain ⟨rfl, N102q, hh102⟩ := hQ102
  have e102 : T102.heap = h0 := hh102
  have N102 := Fr.app N0 N102q
  obtain ⟨fs, hr, hrun, hended, hW, hsame⟩ := X102.leave (v := some (.int (1 : Int32))) (fun h => by rw [Bd.returns] at h; cases h)
  refine ⟨_, _, pre0 _ ?_, hrun, hended, _, _, rfl, ?_, ⟨_, rfl⟩, hW, hsame.mono (by decide) (by decide)⟩
  · show Steps p.tables e below (s₁.setTop (mkF m 0 #[.val (.int p1), .val (.int p2), .unset, .unset, .unset, .unset, .unset] [])) _
    refine XS.iloadN X0.here hx rfl (hb hby at_0) rfl ?_
    show Steps p.tables e below (s₁.setTop (mkF m 1 #[.val (.int p1), .val (.int p2), .unset, .unset, .unset, .unset, .unset] [(.int p1)])) _
    refine X0.ldcInt hx hown (mvT hZ (wi hw 0 rfl)) (g := (mkF m 1 #[.val (.int p1), .val (.int p2), .unset, .unset, .unset, .unset, .unset] [(.int p1)])) rfl (hb hby at_1) _ ?_
    show Steps p.tables e below (s₁.setTop (mkF m 3 #[.val (.int p1), .val (.int p2), .unset, .unset, .unset, .unset, .unset] [(.int (2147483647 : Int32)), (.int p1)])) _
    refine XS.iand X0.here hx rfl (hb hby at_3) rfl ?_
    show Steps p.tables e below (s₁.setTop (mkF m 4 #[.val (.int p1), .val (.int p2), .unset, .unset, .unset, .unset, .unset] [(.int (p1 &&& (2147483647 : Int32)))])) _
    refine XS.bipush X0.here hx rfl (hb hby at_4) ?_
    show Steps p.tables e below (s₁.setTop (mkF m 6 #[.val (.int p1), .val (.int p2), .unset, .unset, .unset, .unset, .unset] [(.int (6 : Int32)), (.int (p1 &&& (2147483647 : Int32)))])) _
    refine XS.irem X0.here hx rfl (hb hby at_6) rfl (by decide) ?_
    show Steps p.tables e below (s₁.setTop (mkF m 7 #[.val (.int p1), .val (.int p2), .unset, .unset, .unset, .unset, .unset] [(.int (irm (p1 &&& (2147483647 : Int32)) (6 : Int32)))])) _
    refine XS.istoreN X0.here hx rfl (hb hby at_7) rfl (l' := #[.val (.int p1), .val (.int p2), .val (.int (irm (p1 &&& (2147483647 : Int32)) (6 : Int32))), .unset, .unset, .unset, .unset]) rfl ?_
    show Steps p.tables e below (s₁.setTop (mkF m 8 #[.val (.int p1), .val (.int p2), .val (.int (irm (p1 &&& (2147483647 : Int32)) (6 : Int32))), .unset, .unset, .unset, .unset] [])) _
    refine XS.iloadN X0.here hx rfl (hb hby at_8) rfl ?_
    show Steps p.tables e below (s₁.setTop (mkF m 9 #[.val (.int p1), .val (.int p2), .val (.int (irm (p1 &&& (2147483647 : Int32)) (6 : Int32))), .unset, .unset, .unset, .unset] [(.int (irm (p1 &&& (2147483647 : Int32)) (6 : Int32)))])) _
    refine XS.ifYes X0.here hx rfl (pc0 := 9) (pc' := 22) rfl (hb hby at_9) rfl ((if0 _ _).trans (feq k0).2) (by decide) (by decide) ?_
    show Steps p.tables e below (s₁.setTop (mkF m 22 #[.val (.int p1), .val (.int p2), .val (.int (irm (p1 &&& (2147483647 : Int32)) (6 : Int32))), .unset, .unset, .unset, .unset] [])) _
    refine XS.iloadN X0.here hx rfl (hb hby at_22) rfl ?_
    show Steps p.tables e below (s₁.setTop (mkF m 23 #[.val (.int p1), .val (.int p2), .val (.int (irm (p1 &&& (2147483647 : Int32)) (6 : Int32))), .unset, .unset, .unset, .unset] [(.int (irm (p1 &&& (2147483647 : Int32)) (6 : Int32)))])) _
    refine XS.iconst X0.here hx rfl (hb hby at_23) ?_
    show Steps p.tables e below (s₁.setTop (mkF m 24 #[.val (.int p1), .val (.int p2), .val (.int (irm (p1 &&& (2147483647 : Int32)) (6 : Int32))), .unset, .unset, .unset, .unset] [(.int (1 : Int32)), (.int (irm (p1 &&& (2147483647 : Int32)) (6 : Int32)))])) _
    refine XS.icmpYes X0.here hx rfl (pc0 := 24) (pc' := 37) rfl (hb hby at_24) rfl (feq k1).2 (by decide) (by decide) ?_
    show Steps p.tables e below (s₁.setTop (mkF m 37 #[.val (.int p1), .val (.int p2), .val (.int (irm (p1 &&& (2147483647 : Int32)) (6 : Int32))), .unset, .unset, .unset, .unset] [])) _
    refine XS.iloadN X0.here hx rfl (hb hby at_37) rfl ?_
    show Steps p.tables e below (s₁.setTop (mkF m 38 #[.val (.int p1), .val (.int p2), .val (.int (irm (p1 &&& (2147483647 : Int32)) (6 : Int32))), .unset, .unset, .unset, .unset] [(.int (irm (p1 &&& (2147483647 : Int32)) (6 : Int32)))])) _
    refine XS.iconst X0.here hx rfl (hb hby at_38) ?_
    show Steps p.tables e below (s₁.setTop (mkF m 39 #[.val (.int p1), .val (.int p2), .val (.int (irm (p1 &&& (2147483647 : Int32)) (6 : Int32))), .unset, .unset, .unset, .unset] [(.int (2 : Int32)), (.int (irm (p1 &&& (2147483647 : Int32)) (6 : Int32)))])) _
    refine XS.icmpNo X0.here hx rfl (hb hby at_39) rfl (teq k2).2 ?_
    show Steps p.tables e below (s₁.setTop (mkF m 42 #[.val (.int p1), .val (.int p2), .val (.int (irm (p1 &&& (2147483647 : Int32)) (6 : Int32))), .unset, .unset, .unset, .unset] [])) _
    refine st101 _ ?_
    show Steps p.tables e below (T101.setTop (mkF m 45 #[.val (.int p1), .val (.int p2), .val (.int (irm (p1 &&& (2147483647 : Int32)) (6 : Int32))), .unset, .unset, .unset, .unset] [(.ref w)])) _
    refine XS.astoreN X101.here hx rfl (hb hby at_45) rfl rfl (l' := #[.val (.int p1), .val (.int p2), .val (.int (irm (p1 &&& (2147483647 : Int32)) (6 : Int32))), .val (.ref w), .unset, .unset, .unset]) rfl ?_
    show Steps p.tables e below (T101.setTop (mkF m 46 #[.val (.int p1), .val (.int p2), .val (.int (irm (p1 &&& (2147483647 : Int32)) (6 : Int32))), .val (.ref w), .unset, .unset, .unset] [])) _
    refine XS.iconst X101.here hx rfl (hb hby at_46) ?_
    show Steps p.tables e below (T101.setTop (mkF m 47 #[.val (.int p1), .val (.int p2), .val (.int (irm (p1 &&& (2147483647 : Int32)) (6 : Int32))), .val (.ref w), .unset, .unset, .unset] [(.int (1 : Int32))])) _
    refine XS.istore X101.here hx rfl (hb hby at_47) rfl (l' := #[.val (.int p1), .val (.int p2), .val (.int (irm (p1 &&& (2147483647 : Int32)) (6 : Int32))), .val (.ref w), .val (.int (1 : Int32)), .unset, .unset]) rfl ?_
    show Steps p.tables e below (T101.setTop (mkF m 49 #[.val (.int p1), .val (.int p2), .val (.int (irm (p1 &&& (2147483647 : Int32)) (6 : Int32))), .val (.ref w), .val (.int (1 : Int32)), .unset, .unset] [])) _
    refine XS.goto X101.here hx rfl (pc0 := 49) (pc' := 90) rfl (hb hby at_49) (by decide) (by decide) ?_
    show Steps p.tables e below (T101.setTop (mkF m 90 #[.val (.int p1), .val (.int p2), .val (.int (irm (p1 &&& (2147483647 : Int32)) (6 : Int32))), .val (.ref w), .val (.int (1 : Int32)), .unset, .unset] [])) _
    refine XS.iloadN X101.here hx rfl (hb hby at_90) rfl ?_
    show Steps p.tables e below (T101.setTop (mkF m 91 #[.val (.int p1), .val (.int p2), .val (.int (irm (p1 &&& (2147483647 : Int32)) (6 : Int32))), .val (.ref w), .val (.int (1 : Int32)), .unset, .unset] [(.int p2)])) _
    refine XS.ifNo X101.here hx rfl (hb hby at_91) rfl ((if0 _ _).trans (tlt s1).2.1) ?_
    show Steps p.tables e below (T101.setTop (mkF m 94 #[.val (.int p1), .val (.int p2), .val (.int (irm (p1 &&& (2147483647 : Int32)) (6 : Int32))), .val (.ref w), .val (.int (1 : Int32)), .unset, .unset] [])) _
    refine XS.iconst X101.here hx rfl (hb hby at_94) ?_
    show Steps p.tables e below (T101.setTop (mkF m 95 #[.val (.int p1), .val (.int p2), .val (.int (irm (p1 &&& (2147483647 : Int32)) (6 : Int32))), .val (.ref w), .val (.int (1 : Int32)), .unset, .unset] [(.int (0 : Int32))])) _
    refine XS.istore X101.here hx rfl (hb hby at_95) rfl (l' := #[.val (.int p1), .val (.int p2), .val (.int (irm (p1 &&& (2147483647 : Int32)) (6 : Int32))), .val (.ref w), .val (.int (1 : Int32)), .val (.int (0 : Int32)), .unset]) rfl ?_
    show Steps p.tables e below (T101.setTop (mkF m 97 #[.val (.int p1), .val (.int p2), .val (.int (irm (p1 &&& (2147483647 : Int32)) (6 : Int32))), .val (.ref w), .val (.int (1 : Int32)), .val (.int (0 : Int32)), .unset] [])) _
    refine XS.goto X101.here hx rfl (pc0 := 97) (pc' := 113) rfl (hb hby at_97) (by decide) (by decide) ?_
    show Steps p.tables e below (T101.setTop (mkF m 113 #[.val (.int p1), .val (.int p2), .val (.int (irm (p1 &&& (2147483647 : Int32)) (6 : Int32))), .val (.ref w), .val (.int (1 : Int32)), .val (.int (0 : Int32)), .unset] [])) _
    refine XS.iload X101.here hx rfl (hb hby at_113) rfl ?_
    show Steps p.tables e below (T101.setTop (mkF m 115 #[.val (.int p1), .val (.int p2), .val (.int (irm (p1 &&& (2147483647 : Int32)) (6 : Int32))), .val (.ref w), .val (.int (1 : Int32)), .val (.int (0 : Int32)), .unset] [(.int (1 : Int32))])) _
    refine XS.iload X101.here hx rfl (hb hby at_115) rfl ?_
    show Steps p.tables e below (T101.setTop (mkF m 117 #[.val (.int p1), .val (.int p2), .val (.int (irm (p1 &&& (2147483647 : Int32)) (6 : Int32))), .val (.ref w), .val (.int (1 : Int32)), .val (.int (0 : Int32)), .unset] [(.int (0 : Int32)), (.int (1 : Int32))])) _
    refine XS.ishr X101.here hx rfl (hb hby at_117) rfl ?_
    show Steps p.tables e below (T101.setTop (mkF m 118 #[.val (.int p1), .val (.int p2), .val (.int (irm (p1 &&& (2147483647 : Int32)) (6 : Int32))), .val (.ref w), .val (.int (1 : Int32)), .val (.int (0 : Int32)), .unset] [(.int ((1 : Int32) >>> ((0 : Int32) &&& 31)))])) _
    refine XS.iconst X101.here hx rfl (hb hby at_118) ?_
    show Steps p.tables e below (T101.setTop (mkF m 119 #[.val (.int p1), .val (.int p2), .val (.int (irm (p1 &&& (2147483647 : Int32)) (6 : Int32))), .val (.ref w), .val (.int (1 : Int32)), .val (.int (0 : Int32)), .unset] [(.int (1 : Int32)), (.int ((1 : Int32) >>> ((0 : Int32) &&& 31)))])) _
    refine XS.iand X101.here hx rfl (hb hby at_119) rfl ?_
    show Steps p.tables e below (T101.setTop (mkF m 120 #[.val (.int p1), .val (.int p2), .val (.int (irm (p1 &&& (2147483647 : Int32)) (6 : Int32))), .val (.ref w), .val (.int (1 : Int32)), .val (.int (0 : Int32)), .unset] [(.int (((1 : Int32) >>> ((0 : Int32) &&& 31)) &&& (1 : Int32)))])) _
    refine XS.ifNo X101.here hx rfl (hb hby at_120) rfl ((if0 _ _).trans (feq (by decide : ¬ ((((1 : Int32) >>> ((0 : Int32) &&& 31)) &&& (1 : Int32)) = (0 : Int32)))).1) ?_
    show Steps p.tables e below (T101.setTop (mkF m 123 #[.val (.int p1), .val (.int p2), .val (.int (irm (p1 &&& (2147483647 : Int32)) (6 : Int32))), .val (.ref w), .val (.int (1 : Int32)), .val (.int (0 : Int32)), .unset] [])) _
    refine XS.iconst X101.here hx rfl (hb hby at_123) ?_
    show Steps p.tables e below (T101.setTop (mkF m 124 #[.val (.int p1), .val (.int p2), .val (.int (irm (p1 &&& (2147483647 : Int32)) (6 : Int32))), .val (.ref w), .val (.int (1 : Int32)), .val (.int (0 : Int32)), .unset] [(.int (1 : Int32))])) _
    refine XS.goto X101.here hx rfl (pc0 := 124) (pc' := 128) rfl (hb hby at_124) (by decide) (by decide) ?_
    show Steps p.tables e below (T101.setTop (mkF m 128 #[.val (.int p1), .val (.int p2), .val (.int (irm (p1 &&& (2147483647 : Int32)) (6 : Int32))), .val (.ref w), .val (.int (1 : Int32)), .val (.int (0 : Int32)), .unset] [(.int (1 : Int32))])) _
    refine XS.istore X101.here hx rfl (hb hby at_128) rfl (l' := #[.val (.int p1), .val (.int p2), .val (.int (irm (p1 &&& (2147483647 : Int32)) (6 : Int32))), .val (.ref w), .val (.int (1 : Int32)), .val (.int (0 : Int32)), .val (.int (1 : Int32))]) rfl ?_
    show Steps p.tables e below (T101.setTop (mkF m 130 #[.val (.int p1), .val (.int p2), .val (.int (irm (p1 &&& (2147483647 : Int32)) (6 : Int32))), .val (.ref w), .val (.int (1 : Int32)), .val (.int (0 : Int32)), .val (.int (1 : Int32))] [])) _
    refine XS.aloadN X101.here hx rfl (hb hby at_130) rfl rfl ?_
    show Steps p.tables e below (T101.setTop (mkF m 131 #[.val (.int p1), .val (.int p2), .val (.int (irm (p1 &&& (2147483647 : Int32)) (6 : Int32))), .val (.ref w), .val (.int (1 : Int32)), .val (.int (0 : Int32)), .val (.int (1 : Int32))] [(.ref w)])) _
    refine XS.iloadN X101.here hx rfl (hb hby at_131) rfl ?_
    show Steps p.tables e below (T101.setTop (mkF m 132 #[.val (.int p1), .val (.int p2), .val (.int (irm (p1 &&& (2147483647 : Int32)) (6 : Int32))), .val (.ref w), .val (.int (1 : Int32)), .val (.int (0 : Int32)), .val (.int (1 : Int32))] [(.int p2), (.ref w)])) _
    refine st102.trans ?_
    show Steps p.tables e below (T102.setTop (mkF m 135 #[.val (.int p1), .val (.int p2), .val (.int (irm (p1 &&& (2147483647 : Int32)) (6 : Int32))), .val (.ref w), .val (.int (1 : Int32)), .val (.int (0 : Int32)), .val (.int (1 : Int32))] [(.int (1 : Int32))])) _
    refine XS.iload X102.here hx rfl (hb hby at_135) rfl ?_
    show Steps p.tables e below (T102.setTop (mkF m 137 #[.val (.int p1), .val (.int p2), .val (.int (irm (p1 &&& (2147483647 : Int32)) (6 : Int32))), .val (.ref w), .val (.int (1 : Int32)), .val (.int (0 : Int32)), .val (.int (1 : Int32))] [(.int (1 : Int32)), (.int (1 : Int32))])) _
    refine XS.icmpNo X102.here hx rfl (hb hby at_137) rfl (teq (by decide : (1 : Int32) = (1 : Int32))).2 ?_
    show Steps p.tables e below (T102.setTop (mkF m 140 #[.val (.int p1), .val (.int p2), .val (.int (irm (p1 &&& (2147483647 : Int32)) (6 : Int32))), .val (.ref w), .val (.int (1 : Int32)), .val (.int (0 : Int32)), .val (.int (1 : Int32))] [])) _
    refine XS.iconst X102.here hx rfl (hb hby at_140) ?_
    show Steps p.tables e below (T102.setTop (mkF m 141 #[.val (.int p1), .val (.int p2), .val (.int (irm (p1 &&& (2147483647 : Int32)) (6 : Int32))), .val (.ref w), .val (.int (1 : Int32)), .val (.int (0 : Int32)), .val (.int (1 : Int32))] [(.int (1 : Int32))])) _
    refine XS.goto X102.here hx rfl (pc0 := 141) (pc' := 145) rfl (hb hby at_141) (by decide) (by decide) ?_
    show Steps p.tables e below (T102.setTop (mkF m 145 #[.val (.int p1), .val (.int p2), .val (.int (irm (p1 &&& (2147483647 : Int32)) (6 : Int32))), .val (.ref w), .val (.int (1 : Int32)), .val (.int (0 : Int32)), .val (.int (1 : Int32))] [(.int (1 : Int32))])) _
    exact retN X102 hx (t := .boolean) Bd.returns (by simp) (hb hby at_145) hr
  · show Q0 h0 n0 _ T102.heap _
    rw [e102]
    exact ⟨rfl, N102⟩
set_option maxRecDepth 65536 in
set_option maxHeartbeats 40000000 in
theorem rm0_2e (l : Launch) (Z : State) (a0 : Array Value) (hw : ∀ d ∈ tables_1, d.before a0 Z = true) (ws : List Jvm.Cond) (p1 p2 : Int32) (w : Addr) (h0 : Heap) (n0 : Nat) (O0 : Old Z n0 h0) (S : Sta Z Z.heap "com/example/plugroot/plugroot/sql/Comparison" "LESS" "Lcom/example/plugroot/plugroot/sql/Comparison;" (.ref w)) (E : Exa Z Z.heap w "com/example/plugroot/plugroot/sql/Comparison") (F_o : Fld Z Z.heap w "java/lang/Enum" "ordinal" "I" (.int 2)) (k0 : ¬ ((irm (p1 &&& (2147483647 : Int32)) (6 : Int32)) = 0)) (k1 : ¬ ((irm (p1 &&& (2147483647 : Int32)) (6 : Int32)) = 1)) (k2 : (irm (p1 &&& (2147483647 : Int32)) (6 : Int32)) = 2) (s1 : ¬ (p2 < 0)) (s2 : p2 = 0) :
    MetFree l x (head1 (Jvm.Cond.code x code maxLocals ret :: ws) room_1) (fun a_ U => a_ = #[(.int p1), (.int p2)] ∧ Z.Warmed39 U.vm ∧ U.heap = h0) (fun _ _ _ _ _ => True) (fun _ U o U' => ∃ v L, o = .returned v ∧ Q0 h0 n0 v U'.heap L ∧ FrameEnd U o U' L room_1.cells room_1.slots) := by
  refine MetFree.of_bodySF (plainFor_of_name pn_2) hisR ?_
  intro p e s m args below meth c s₁ Bd hml0 hP hK
  obtain ⟨rfl, hZ, hh⟩ := hP
  have hx := Bd.exec
  have hby := Bd.bytes
  have hml : c.maxLocals = 7 := hml0
  have hown : s.vm.findClass "com/example/plugroot/plugroot/sql/ComparisonHoldsPinLaw" = some m.cls := findClass_of_methodNamed Bd.named
  have hnm := (name_of_methodNamed Bd.named Bd.method).1
  have X0 : Stand p l e room_1 s m #[(.int p1), (.int p2)] below meth c s₁ [] 0 0 := Stand.of_body Bd
  have e0 : s₁.heap = h0 := by rw [← hh, Bd.state]; rfl
  have N0 := Fr.nil n0
  have pre0 : ∀ tg, Steps p.tables e below (s₁.setTop (mkF m 0 #[.val (.int p1), .val (.int p2), .unset, .unset, .unset, .unset, .unset] [])) tg → Steps p.tables e below (s₁.setTop (entryFrame m #[(.int p1), (.int p2)] maxLocals)) tg := fun tg kq => castTop (ef_II_7m m p1 p2) kq
  obtain ⟨T101, X101, e101, st101⟩ := getS2 X0 hx hZ hown (host := "") (Or.inl (wi hw 18 rfl)) Via.refl e0 (S.ext O0.2) (g := (mkF m 42 #[.val (.int p1), .val (.int p2), .val (.int (irm (p1 &&& (2147483647 : Int32)) (6 : Int32))), .unset, .unset, .unset, .unset] [])) rfl (hb hby at_42)
  obtain ⟨cq102, kq102, q102a, q102b, q102c⟩ := isOf hZ e101 (E.ext O0.2)
  obtain ⟨_, _, ⟨T102, L102, k102, n102⟩, -, X102, ⟨Lc102, hQ102, l102, y102, z102⟩, st102⟩ := X101.virtualBack hx (y := (⟨"com/example/plugroot/plugroot/sql/Comparison", "holds", "(I)Z"⟩ : MethodName)) (z := (⟨"com/example/plugroot/plugroot/sql/Comparison", "holds", "(I)Z"⟩ : MethodName)) hown (mvT hZ (wi hw 4 rfl)) (mvT hZ (wi hw 5 rfl)) (notFace_of_selects (args := #[]) (mvT hZ (wi hw 7 rfl))) (mvT hZ (wi hw 7 rfl)) (mvT hZ (wi hw 6 rfl)) (by decide) (backOf (W := 0) (rm1_2t l Z a0 hw [] w p2 h0 n0 O0 F_o E s1) hZ (wi hw 8 rfl) (wi hw 2 rfl) (by decide) (by decide)) q102a q102c (g := (mkF m 132 #[.val (.int p1), .val (.int p2), .val (.int (irm (p1 &&& (2147483647 : Int32)) (6 : Int32))), .val (.ref w), .val (.int (1 : Int32)), .val (.int (1 : Int32)), .val (.int (0 : Int32))] [(.int p2), (.ref w)])) rfl (by rw [hml]; rfl) (Steps.refl _) (argsL := [(.int p2)]) (rest := []) (lenOf pd_1 rfl) rfl (by show 2 * 0 + _ ≤ _; exact Nat.le_of_eq rfl) (hb hby at_132) (fun _ _ => ⟨rfl, e101, (by decide : 0 + 0 ≤ _), (by decide : 0 + 0 ≤ _)⟩)
  dsimp only [Pt.U, Pt.locs, Pt.cells, Pt.slots] at X102 l102 y102 z102 st102 hQ102
  subst l102 y102 z102
  obtain ⟨rfl, N102q, hh102⟩ := hQ102
  have e102 : T102.heap = h0 := hh102
  have N102 := Fr.app N0 N102q
  obtain ⟨fs, hr, hrun, hended, hW, hsame⟩ := X102.leave (v := some (.int (1 : Int32))) (fun h => by rw [Bd.returns] at h; cases h)
  refine ⟨_, _, pre0 _ ?_, hrun, hended, _, _, rfl, ?_, ⟨_, rfl⟩, hW, hsame.mono (by decide) (by decide)⟩
  · show Steps p.tables e below (s₁.setTop (mkF m 0 #[.val (.int p1), .val (.int p2), .unset, .unset, .unset, .unset, .unset] [])) _
    refine XS.iloadN X0.here hx rfl (hb hby at_0) rfl ?_
    show Steps p.tables e below (s₁.setTop (mkF m 1 #[.val (.int p1), .val (.int p2), .unset, .unset, .unset, .unset, .unset] [(.int p1)])) _
    refine X0.ldcInt hx hown (mvT hZ (wi hw 0 rfl)) (g := (mkF m 1 #[.val (.int p1), .val (.int p2), .unset, .unset, .unset, .unset, .unset] [(.int p1)])) rfl (hb hby at_1) _ ?_
    show Steps p.tables e below (s₁.setTop (mkF m 3 #[.val (.int p1), .val (.int p2), .unset, .unset, .unset, .unset, .unset] [(.int (2147483647 : Int32)), (.int p1)])) _
    refine XS.iand X0.here hx rfl (hb hby at_3) rfl ?_
    show Steps p.tables e below (s₁.setTop (mkF m 4 #[.val (.int p1), .val (.int p2), .unset, .unset, .unset, .unset, .unset] [(.int (p1 &&& (2147483647 : Int32)))])) _
    refine XS.bipush X0.here hx rfl (hb hby at_4) ?_
    show Steps p.tables e below (s₁.setTop (mkF m 6 #[.val (.int p1), .val (.int p2), .unset, .unset, .unset, .unset, .unset] [(.int (6 : Int32)), (.int (p1 &&& (2147483647 : Int32)))])) _
    refine XS.irem X0.here hx rfl (hb hby at_6) rfl (by decide) ?_
    show Steps p.tables e below (s₁.setTop (mkF m 7 #[.val (.int p1), .val (.int p2), .unset, .unset, .unset, .unset, .unset] [(.int (irm (p1 &&& (2147483647 : Int32)) (6 : Int32)))])) _
    refine XS.istoreN X0.here hx rfl (hb hby at_7) rfl (l' := #[.val (.int p1), .val (.int p2), .val (.int (irm (p1 &&& (2147483647 : Int32)) (6 : Int32))), .unset, .unset, .unset, .unset]) rfl ?_
    show Steps p.tables e below (s₁.setTop (mkF m 8 #[.val (.int p1), .val (.int p2), .val (.int (irm (p1 &&& (2147483647 : Int32)) (6 : Int32))), .unset, .unset, .unset, .unset] [])) _
    refine XS.iloadN X0.here hx rfl (hb hby at_8) rfl ?_
    show Steps p.tables e below (s₁.setTop (mkF m 9 #[.val (.int p1), .val (.int p2), .val (.int (irm (p1 &&& (2147483647 : Int32)) (6 : Int32))), .unset, .unset, .unset, .unset] [(.int (irm (p1 &&& (2147483647 : Int32)) (6 : Int32)))])) _
    refine XS.ifYes X0.here hx rfl (pc0 := 9) (pc' := 22) rfl (hb hby at_9) rfl ((if0 _ _).trans (feq k0).2) (by decide) (by decide) ?_
    show Steps p.tables e below (s₁.setTop (mkF m 22 #[.val (.int p1), .val (.int p2), .val (.int (irm (p1 &&& (2147483647 : Int32)) (6 : Int32))), .unset, .unset, .unset, .unset] [])) _
    refine XS.iloadN X0.here hx rfl (hb hby at_22) rfl ?_
    show Steps p.tables e below (s₁.setTop (mkF m 23 #[.val (.int p1), .val (.int p2), .val (.int (irm (p1 &&& (2147483647 : Int32)) (6 : Int32))), .unset, .unset, .unset, .unset] [(.int (irm (p1 &&& (2147483647 : Int32)) (6 : Int32)))])) _
    refine XS.iconst X0.here hx rfl (hb hby at_23) ?_
    show Steps p.tables e below (s₁.setTop (mkF m 24 #[.val (.int p1), .val (.int p2), .val (.int (irm (p1 &&& (2147483647 : Int32)) (6 : Int32))), .unset, .unset, .unset, .unset] [(.int (1 : Int32)), (.int (irm (p1 &&& (2147483647 : Int32)) (6 : Int32)))])) _
    refine XS.icmpYes X0.here hx rfl (pc0 := 24) (pc' := 37) rfl (hb hby at_24) rfl (feq k1).2 (by decide) (by decide) ?_
    show Steps p.tables e below (s₁.setTop (mkF m 37 #[.val (.int p1), .val (.int p2), .val (.int (irm (p1 &&& (2147483647 : Int32)) (6 : Int32))), .unset, .unset, .unset, .unset] [])) _
    refine XS.iloadN X0.here hx rfl (hb hby at_37) rfl ?_
    show Steps p.tables e below (s₁.setTop (mkF m 38 #[.val (.int p1), .val (.int p2), .val (.int (irm (p1 &&& (2147483647 : Int32)) (6 : Int32))), .unset, .unset, .unset, .unset] [(.int (irm (p1 &&& (2147483647 : Int32)) (6 : Int32)))])) _
    refine XS.iconst X0.here hx rfl (hb hby at_38) ?_
    show Steps p.tables e below (s₁.setTop (mkF m 39 #[.val (.int p1), .val (.int p2), .val (.int (irm (p1 &&& (2147483647 : Int32)) (6 : Int32))), .unset, .unset, .unset, .unset] [(.int (2 : Int32)), (.int (irm (p1 &&& (2147483647 : Int32)) (6 : Int32)))])) _
    refine XS.icmpNo X0.here hx rfl (hb hby at_39) rfl (teq k2).2 ?_
    show Steps p.tables e below (s₁.setTop (mkF m 42 #[.val (.int p1), .val (.int p2), .val (.int (irm (p1 &&& (2147483647 : Int32)) (6 : Int32))), .unset, .unset, .unset, .unset] [])) _
    refine st101 _ ?_
    show Steps p.tables e below (T101.setTop (mkF m 45 #[.val (.int p1), .val (.int p2), .val (.int (irm (p1 &&& (2147483647 : Int32)) (6 : Int32))), .unset, .unset, .unset, .unset] [(.ref w)])) _
    refine XS.astoreN X101.here hx rfl (hb hby at_45) rfl rfl (l' := #[.val (.int p1), .val (.int p2), .val (.int (irm (p1 &&& (2147483647 : Int32)) (6 : Int32))), .val (.ref w), .unset, .unset, .unset]) rfl ?_
    show Steps p.tables e below (T101.setTop (mkF m 46 #[.val (.int p1), .val (.int p2), .val (.int (irm (p1 &&& (2147483647 : Int32)) (6 : Int32))), .val (.ref w), .unset, .unset, .unset] [])) _
    refine XS.iconst X101.here hx rfl (hb hby at_46) ?_
    show Steps p.tables e below (T101.setTop (mkF m 47 #[.val (.int p1), .val (.int p2), .val (.int (irm (p1 &&& (2147483647 : Int32)) (6 : Int32))), .val (.ref w), .unset, .unset, .unset] [(.int (1 : Int32))])) _
    refine XS.istore X101.here hx rfl (hb hby at_47) rfl (l' := #[.val (.int p1), .val (.int p2), .val (.int (irm (p1 &&& (2147483647 : Int32)) (6 : Int32))), .val (.ref w), .val (.int (1 : Int32)), .unset, .unset]) rfl ?_
    show Steps p.tables e below (T101.setTop (mkF m 49 #[.val (.int p1), .val (.int p2), .val (.int (irm (p1 &&& (2147483647 : Int32)) (6 : Int32))), .val (.ref w), .val (.int (1 : Int32)), .unset, .unset] [])) _
    refine XS.goto X101.here hx rfl (pc0 := 49) (pc' := 90) rfl (hb hby at_49) (by decide) (by decide) ?_
    show Steps p.tables e below (T101.setTop (mkF m 90 #[.val (.int p1), .val (.int p2), .val (.int (irm (p1 &&& (2147483647 : Int32)) (6 : Int32))), .val (.ref w), .val (.int (1 : Int32)), .unset, .unset] [])) _
    refine XS.iloadN X101.here hx rfl (hb hby at_90) rfl ?_
    show Steps p.tables e below (T101.setTop (mkF m 91 #[.val (.int p1), .val (.int p2), .val (.int (irm (p1 &&& (2147483647 : Int32)) (6 : Int32))), .val (.ref w), .val (.int (1 : Int32)), .unset, .unset] [(.int p2)])) _
    refine XS.ifYes X101.here hx rfl (pc0 := 91) (pc' := 100) rfl (hb hby at_91) rfl ((if0 _ _).trans (flt s1).2.1) (by decide) (by decide) ?_
    show Steps p.tables e below (T101.setTop (mkF m 100 #[.val (.int p1), .val (.int p2), .val (.int (irm (p1 &&& (2147483647 : Int32)) (6 : Int32))), .val (.ref w), .val (.int (1 : Int32)), .unset, .unset] [])) _
    refine XS.iloadN X101.here hx rfl (hb hby at_100) rfl ?_
    show Steps p.tables e below (T101.setTop (mkF m 101 #[.val (.int p1), .val (.int p2), .val (.int (irm (p1 &&& (2147483647 : Int32)) (6 : Int32))), .val (.ref w), .val (.int (1 : Int32)), .unset, .unset] [(.int p2)])) _
    refine XS.ifNo X101.here hx rfl (hb hby at_101) rfl ((if0 _ _).trans (teq s2).2) ?_
    show Steps p.tables e below (T101.setTop (mkF m 104 #[.val (.int p1), .val (.int p2), .val (.int (irm (p1 &&& (2147483647 : Int32)) (6 : Int32))), .val (.ref w), .val (.int (1 : Int32)), .unset, .unset] [])) _
    refine XS.iconst X101.here hx rfl (hb hby at_104) ?_
    show Steps p.tables e below (T101.setTop (mkF m 105 #[.val (.int p1), .val (.int p2), .val (.int (irm (p1 &&& (2147483647 : Int32)) (6 : Int32))), .val (.ref w), .val (.int (1 : Int32)), .unset, .unset] [(.int (1 : Int32))])) _
    refine XS.istore X101.here hx rfl (hb hby at_105) rfl (l' := #[.val (.int p1), .val (.int p2), .val (.int (irm (p1 &&& (2147483647 : Int32)) (6 : Int32))), .val (.ref w), .val (.int (1 : Int32)), .val (.int (1 : Int32)), .unset]) rfl ?_
    show Steps p.tables e below (T101.setTop (mkF m 107 #[.val (.int p1), .val (.int p2), .val (.int (irm (p1 &&& (2147483647 : Int32)) (6 : Int32))), .val (.ref w), .val (.int (1 : Int32)), .val (.int (1 : Int32)), .unset] [])) _
    refine XS.goto X101.here hx rfl (pc0 := 107) (pc' := 113) rfl (hb hby at_107) (by decide) (by decide) ?_
    show Steps p.tables e below (T101.setTop (mkF m 113 #[.val (.int p1), .val (.int p2), .val (.int (irm (p1 &&& (2147483647 : Int32)) (6 : Int32))), .val (.ref w), .val (.int (1 : Int32)), .val (.int (1 : Int32)), .unset] [])) _
    refine XS.iload X101.here hx rfl (hb hby at_113) rfl ?_
    show Steps p.tables e below (T101.setTop (mkF m 115 #[.val (.int p1), .val (.int p2), .val (.int (irm (p1 &&& (2147483647 : Int32)) (6 : Int32))), .val (.ref w), .val (.int (1 : Int32)), .val (.int (1 : Int32)), .unset] [(.int (1 : Int32))])) _
    refine XS.iload X101.here hx rfl (hb hby at_115) rfl ?_
    show Steps p.tables e below (T101.setTop (mkF m 117 #[.val (.int p1), .val (.int p2), .val (.int (irm (p1 &&& (2147483647 : Int32)) (6 : Int32))), .val (.ref w), .val (.int (1 : Int32)), .val (.int (1 : Int32)), .unset] [(.int (1 : Int32)), (.int (1 : Int32))])) _
    refine XS.ishr X101.here hx rfl (hb hby at_117) rfl ?_
    show Steps p.tables e below (T101.setTop (mkF m 118 #[.val (.int p1), .val (.int p2), .val (.int (irm (p1 &&& (2147483647 : Int32)) (6 : Int32))), .val (.ref w), .val (.int (1 : Int32)), .val (.int (1 : Int32)), .unset] [(.int ((1 : Int32) >>> ((1 : Int32) &&& 31)))])) _
    refine XS.iconst X101.here hx rfl (hb hby at_118) ?_
    show Steps p.tables e below (T101.setTop (mkF m 119 #[.val (.int p1), .val (.int p2), .val (.int (irm (p1 &&& (2147483647 : Int32)) (6 : Int32))), .val (.ref w), .val (.int (1 : Int32)), .val (.int (1 : Int32)), .unset] [(.int (1 : Int32)), (.int ((1 : Int32) >>> ((1 : Int32) &&& 31)))])) _
    refine XS.iand X101.here hx rfl (hb hby at_119) rfl ?_
    show Steps p.tables e below (T101.setTop (mkF m 120 #[.val (.int p1), .val (.int p2), .val (.int (irm (p1 &&& (2147483647 : Int32)) (6 : Int32))), .val (.ref w), .val (.int (1 : Int32)), .val (.int (1 : Int32)), .unset] [(.int (((1 : Int32) >>> ((1 : Int32) &&& 31)) &&& (1 : Int32)))])) _
    refine XS.ifYes X101.here hx rfl (pc0 := 120) (pc' := 127) rfl (hb hby at_120) rfl ((if0 _ _).trans (teq (by decide : (((1 : Int32) >>> ((1 : Int32) &&& 31)) &&& (1 : Int32)) = (0 : Int32))).1) (by decide) (by decide) ?_
    show Steps p.tables e below (T101.setTop (mkF m 127 #[.val (.int p1), .val (.int p2), .val (.int (irm (p1 &&& (2147483647 : Int32)) (6 : Int32))), .val (.ref w), .val (.int (1 : Int32)), .val (.int (1 : Int32)), .unset] [])) _
    refine XS.iconst X101.here hx rfl (hb hby at_127) ?_
    show Steps p.tables e below (T101.setTop (mkF m 128 #[.val (.int p1), .val (.int p2), .val (.int (irm (p1 &&& (2147483647 : Int32)) (6 : Int32))), .val (.ref w), .val (.int (1 : Int32)), .val (.int (1 : Int32)), .unset] [(.int (0 : Int32))])) _
    refine XS.istore X101.here hx rfl (hb hby at_128) rfl (l' := #[.val (.int p1), .val (.int p2), .val (.int (irm (p1 &&& (2147483647 : Int32)) (6 : Int32))), .val (.ref w), .val (.int (1 : Int32)), .val (.int (1 : Int32)), .val (.int (0 : Int32))]) rfl ?_
    show Steps p.tables e below (T101.setTop (mkF m 130 #[.val (.int p1), .val (.int p2), .val (.int (irm (p1 &&& (2147483647 : Int32)) (6 : Int32))), .val (.ref w), .val (.int (1 : Int32)), .val (.int (1 : Int32)), .val (.int (0 : Int32))] [])) _
    refine XS.aloadN X101.here hx rfl (hb hby at_130) rfl rfl ?_
    show Steps p.tables e below (T101.setTop (mkF m 131 #[.val (.int p1), .val (.int p2), .val (.int (irm (p1 &&& (2147483647 : Int32)) (6 : Int32))), .val (.ref w), .val (.int (1 : Int32)), .val (.int (1 : Int32)), .val (.int (0 : Int32))] [(.ref w)])) _
    refine XS.iloadN X101.here hx rfl (hb hby at_131) rfl ?_
    show Steps p.tables e below (T101.setTop (mkF m 132 #[.val (.int p1), .val (.int p2), .val (.int (irm (p1 &&& (2147483647 : Int32)) (6 : Int32))), .val (.ref w), .val (.int (1 : Int32)), .val (.int (1 : Int32)), .val (.int (0 : Int32))] [(.int p2), (.ref w)])) _
    refine st102.trans ?_
    show Steps p.tables e below (T102.setTop (mkF m 135 #[.val (.int p1), .val (.int p2), .val (.int (irm (p1 &&& (2147483647 : Int32)) (6 : Int32))), .val (.ref w), .val (.int (1 : Int32)), .val (.int (1 : Int32)), .val (.int (0 : Int32))] [(.int (0 : Int32))])) _
    refine XS.iload X102.here hx rfl (hb hby at_135) rfl ?_
    show Steps p.tables e below (T102.setTop (mkF m 137 #[.val (.int p1), .val (.int p2), .val (.int (irm (p1 &&& (2147483647 : Int32)) (6 : Int32))), .val (.ref w), .val (.int (1 : Int32)), .val (.int (1 : Int32)), .val (.int (0 : Int32))] [(.int (0 : Int32)), (.int (0 : Int32))])) _
    refine XS.icmpNo X102.here hx rfl (hb hby at_137) rfl (teq (by decide : (0 : Int32) = (0 : Int32))).2 ?_
    show Steps p.tables e below (T102.setTop (mkF m 140 #[.val (.int p1), .val (.int p2), .val (.int (irm (p1 &&& (2147483647 : Int32)) (6 : Int32))), .val (.ref w), .val (.int (1 : Int32)), .val (.int (1 : Int32)), .val (.int (0 : Int32))] [])) _
    refine XS.iconst X102.here hx rfl (hb hby at_140) ?_
    show Steps p.tables e below (T102.setTop (mkF m 141 #[.val (.int p1), .val (.int p2), .val (.int (irm (p1 &&& (2147483647 : Int32)) (6 : Int32))), .val (.ref w), .val (.int (1 : Int32)), .val (.int (1 : Int32)), .val (.int (0 : Int32))] [(.int (1 : Int32))])) _
    refine XS.goto X102.here hx rfl (pc0 := 141) (pc' := 145) rfl (hb hby at_141) (by decide) (by decide) ?_
    show Steps p.tables e below (T102.setTop (mkF m 145 #[.val (.int p1), .val (.int p2), .val (.int (irm (p1 &&& (2147483647 : Int32)) (6 : Int32))), .val (.ref w), .val (.int (1 : Int32)), .val (.int (1 : Int32)), .val (.int (0 : Int32))] [(.int (1 : Int32))])) _
    exact retN X102 hx (t := .boolean) Bd.returns (by simp) (hb hby at_145) hr
  · show Q0 h0 n0 _ T102.heap _
    rw [e102]
    exact ⟨rfl, N102⟩
set_option maxRecDepth 65536 in
set_option maxHeartbeats 40000000 in
theorem rm0_2g (l : Launch) (Z : State) (a0 : Array Value) (hw : ∀ d ∈ tables_1, d.before a0 Z = true) (ws : List Jvm.Cond) (p1 p2 : Int32) (w : Addr) (h0 : Heap) (n0 : Nat) (O0 : Old Z n0 h0) (S : Sta Z Z.heap "com/example/plugroot/plugroot/sql/Comparison" "LESS" "Lcom/example/plugroot/plugroot/sql/Comparison;" (.ref w)) (E : Exa Z Z.heap w "com/example/plugroot/plugroot/sql/Comparison") (F_o : Fld Z Z.heap w "java/lang/Enum" "ordinal" "I" (.int 2)) (k0 : ¬ ((irm (p1 &&& (2147483647 : Int32)) (6 : Int32)) = 0)) (k1 : ¬ ((irm (p1 &&& (2147483647 : Int32)) (6 : Int32)) = 1)) (k2 : (irm (p1 &&& (2147483647 : Int32)) (6 : Int32)) = 2) (s1 : ¬ (p2 < 0)) (s2 : ¬ (p2 = 0)) :
    MetFree l x (head1 (Jvm.Cond.code x code maxLocals ret :: ws) room_1) (fun a_ U => a_ = #[(.int p1), (.int p2)] ∧ Z.Warmed39 U.vm ∧ U.heap = h0) (fun _ _ _ _ _ => True) (fun _ U o U' => ∃ v L, o = .returned v ∧ Q0 h0 n0 v U'.heap L ∧ FrameEnd U o U' L room_1.cells room_1.slots) := by
  refine MetFree.of_bodySF (plainFor_of_name pn_2) hisR ?_
  intro p e s m args below meth c s₁ Bd hml0 hP hK
  obtain ⟨rfl, hZ, hh⟩ := hP
  have hx := Bd.exec
  have hby := Bd.bytes
  have hml : c.maxLocals = 7 := hml0
  have hown : s.vm.findClass "com/example/plugroot/plugroot/sql/ComparisonHoldsPinLaw" = some m.cls := findClass_of_methodNamed Bd.named
  have hnm := (name_of_methodNamed Bd.named Bd.method).1
  have X0 : Stand p l e room_1 s m #[(.int p1), (.int p2)] below meth c s₁ [] 0 0 := Stand.of_body Bd
  have e0 : s₁.heap = h0 := by rw [← hh, Bd.state]; rfl
  have N0 := Fr.nil n0
  have pre0 : ∀ tg, Steps p.tables e below (s₁.setTop (mkF m 0 #[.val (.int p1), .val (.int p2), .unset, .unset, .unset, .unset, .unset] [])) tg → Steps p.tables e below (s₁.setTop (entryFrame m #[(.int p1), (.int p2)] maxLocals)) tg := fun tg kq => castTop (ef_II_7m m p1 p2) kq
  obtain ⟨T101, X101, e101, st101⟩ := getS2 X0 hx hZ hown (host := "") (Or.inl (wi hw 18 rfl)) Via.refl e0 (S.ext O0.2) (g := (mkF m 42 #[.val (.int p1), .val (.int p2), .val (.int (irm (p1 &&& (2147483647 : Int32)) (6 : Int32))), .unset, .unset, .unset, .unset] [])) rfl (hb hby at_42)
  obtain ⟨cq102, kq102, q102a, q102b, q102c⟩ := isOf hZ e101 (E.ext O0.2)
  obtain ⟨_, _, ⟨T102, L102, k102, n102⟩, -, X102, ⟨Lc102, hQ102, l102, y102, z102⟩, st102⟩ := X101.virtualBack hx (y := (⟨"com/example/plugroot/plugroot/sql/Comparison", "holds", "(I)Z"⟩ : MethodName)) (z := (⟨"com/example/plugroot/plugroot/sql/Comparison", "holds", "(I)Z"⟩ : MethodName)) hown (mvT hZ (wi hw 4 rfl)) (mvT hZ (wi hw 5 rfl)) (notFace_of_selects (args := #[]) (mvT hZ (wi hw 7 rfl))) (mvT hZ (wi hw 7 rfl)) (mvT hZ (wi hw 6 rfl)) (by decide) (backOf (W := 0) (rm1_2t l Z a0 hw [] w p2 h0 n0 O0 F_o E s1) hZ (wi hw 8 rfl) (wi hw 2 rfl) (by decide) (by decide)) q102a q102c (g := (mkF m 132 #[.val (.int p1), .val (.int p2), .val (.int (irm (p1 &&& (2147483647 : Int32)) (6 : Int32))), .val (.ref w), .val (.int (1 : Int32)), .val (.int (2 : Int32)), .val (.int (0 : Int32))] [(.int p2), (.ref w)])) rfl (by rw [hml]; rfl) (Steps.refl _) (argsL := [(.int p2)]) (rest := []) (lenOf pd_1 rfl) rfl (by show 2 * 0 + _ ≤ _; exact Nat.le_of_eq rfl) (hb hby at_132) (fun _ _ => ⟨rfl, e101, (by decide : 0 + 0 ≤ _), (by decide : 0 + 0 ≤ _)⟩)
  dsimp only [Pt.U, Pt.locs, Pt.cells, Pt.slots] at X102 l102 y102 z102 st102 hQ102
  subst l102 y102 z102
  obtain ⟨rfl, N102q, hh102⟩ := hQ102
  have e102 : T102.heap = h0 := hh102
  have N102 := Fr.app N0 N102q
  obtain ⟨fs, hr, hrun, hended, hW, hsame⟩ := X102.leave (v := some (.int (1 : Int32))) (fun h => by rw [Bd.returns] at h; cases h)
  refine ⟨_, _, pre0 _ ?_, hrun, hended, _, _, rfl, ?_, ⟨_, rfl⟩, hW, hsame.mono (by decide) (by decide)⟩
  · show Steps p.tables e below (s₁.setTop (mkF m 0 #[.val (.int p1), .val (.int p2), .unset, .unset, .unset, .unset, .unset] [])) _
    refine XS.iloadN X0.here hx rfl (hb hby at_0) rfl ?_
    show Steps p.tables e below (s₁.setTop (mkF m 1 #[.val (.int p1), .val (.int p2), .unset, .unset, .unset, .unset, .unset] [(.int p1)])) _
    refine X0.ldcInt hx hown (mvT hZ (wi hw 0 rfl)) (g := (mkF m 1 #[.val (.int p1), .val (.int p2), .unset, .unset, .unset, .unset, .unset] [(.int p1)])) rfl (hb hby at_1) _ ?_
    show Steps p.tables e below (s₁.setTop (mkF m 3 #[.val (.int p1), .val (.int p2), .unset, .unset, .unset, .unset, .unset] [(.int (2147483647 : Int32)), (.int p1)])) _
    refine XS.iand X0.here hx rfl (hb hby at_3) rfl ?_
    show Steps p.tables e below (s₁.setTop (mkF m 4 #[.val (.int p1), .val (.int p2), .unset, .unset, .unset, .unset, .unset] [(.int (p1 &&& (2147483647 : Int32)))])) _
    refine XS.bipush X0.here hx rfl (hb hby at_4) ?_
    show Steps p.tables e below (s₁.setTop (mkF m 6 #[.val (.int p1), .val (.int p2), .unset, .unset, .unset, .unset, .unset] [(.int (6 : Int32)), (.int (p1 &&& (2147483647 : Int32)))])) _
    refine XS.irem X0.here hx rfl (hb hby at_6) rfl (by decide) ?_
    show Steps p.tables e below (s₁.setTop (mkF m 7 #[.val (.int p1), .val (.int p2), .unset, .unset, .unset, .unset, .unset] [(.int (irm (p1 &&& (2147483647 : Int32)) (6 : Int32)))])) _
    refine XS.istoreN X0.here hx rfl (hb hby at_7) rfl (l' := #[.val (.int p1), .val (.int p2), .val (.int (irm (p1 &&& (2147483647 : Int32)) (6 : Int32))), .unset, .unset, .unset, .unset]) rfl ?_
    show Steps p.tables e below (s₁.setTop (mkF m 8 #[.val (.int p1), .val (.int p2), .val (.int (irm (p1 &&& (2147483647 : Int32)) (6 : Int32))), .unset, .unset, .unset, .unset] [])) _
    refine XS.iloadN X0.here hx rfl (hb hby at_8) rfl ?_
    show Steps p.tables e below (s₁.setTop (mkF m 9 #[.val (.int p1), .val (.int p2), .val (.int (irm (p1 &&& (2147483647 : Int32)) (6 : Int32))), .unset, .unset, .unset, .unset] [(.int (irm (p1 &&& (2147483647 : Int32)) (6 : Int32)))])) _
    refine XS.ifYes X0.here hx rfl (pc0 := 9) (pc' := 22) rfl (hb hby at_9) rfl ((if0 _ _).trans (feq k0).2) (by decide) (by decide) ?_
    show Steps p.tables e below (s₁.setTop (mkF m 22 #[.val (.int p1), .val (.int p2), .val (.int (irm (p1 &&& (2147483647 : Int32)) (6 : Int32))), .unset, .unset, .unset, .unset] [])) _
    refine XS.iloadN X0.here hx rfl (hb hby at_22) rfl ?_
    show Steps p.tables e below (s₁.setTop (mkF m 23 #[.val (.int p1), .val (.int p2), .val (.int (irm (p1 &&& (2147483647 : Int32)) (6 : Int32))), .unset, .unset, .unset, .unset] [(.int (irm (p1 &&& (2147483647 : Int32)) (6 : Int32)))])) _
    refine XS.iconst X0.here hx rfl (hb hby at_23) ?_
    show Steps p.tables e below (s₁.setTop (mkF m 24 #[.val (.int p1), .val (.int p2), .val (.int (irm (p1 &&& (2147483647 : Int32)) (6 : Int32))), .unset, .unset, .unset, .unset] [(.int (1 : Int32)), (.int (irm (p1 &&& (2147483647 : Int32)) (6 : Int32)))])) _
    refine XS.icmpYes X0.here hx rfl (pc0 := 24) (pc' := 37) rfl (hb hby at_24) rfl (feq k1).2 (by decide) (by decide) ?_
    show Steps p.tables e below (s₁.setTop (mkF m 37 #[.val (.int p1), .val (.int p2), .val (.int (irm (p1 &&& (2147483647 : Int32)) (6 : Int32))), .unset, .unset, .unset, .unset] [])) _
    refine XS.iloadN X0.here hx rfl (hb hby at_37) rfl ?_
    show Steps p.tables e below (s₁.setTop (mkF m 38 #[.val (.int p1), .val (.int p2), .val (.int (irm (p1 &&& (2147483647 : Int32)) (6 : Int32))), .unset, .unset, .unset, .unset] [(.int (irm (p1 &&& (2147483647 : Int32)) (6 : Int32)))])) _
    refine XS.iconst X0.here hx rfl (hb hby at_38) ?_
    show Steps p.tables e below (s₁.setTop (mkF m 39 #[.val (.int p1), .val (.int p2), .val (.int (irm (p1 &&& (2147483647 : Int32)) (6 : Int32))), .unset, .unset, .unset, .unset] [(.int (2 : Int32)), (.int (irm (p1 &&& (2147483647 : Int32)) (6 : Int32)))])) _
    refine XS.icmpNo X0.here hx rfl (hb hby at_39) rfl (teq k2).2 ?_
    show Steps p.tables e below (s₁.setTop (mkF m 42 #[.val (.int p1), .val (.int p2), .val (.int (irm (p1 &&& (2147483647 : Int32)) (6 : Int32))), .unset, .unset, .unset, .unset] [])) _
    refine st101 _ ?_
    show Steps p.tables e below (T101.setTop (mkF m 45 #[.val (.int p1), .val (.int p2), .val (.int (irm (p1 &&& (2147483647 : Int32)) (6 : Int32))), .unset, .unset, .unset, .unset] [(.ref w)])) _
    refine XS.astoreN X101.here hx rfl (hb hby at_45) rfl rfl (l' := #[.val (.int p1), .val (.int p2), .val (.int (irm (p1 &&& (2147483647 : Int32)) (6 : Int32))), .val (.ref w), .unset, .unset, .unset]) rfl ?_
    show Steps p.tables e below (T101.setTop (mkF m 46 #[.val (.int p1), .val (.int p2), .val (.int (irm (p1 &&& (2147483647 : Int32)) (6 : Int32))), .val (.ref w), .unset, .unset, .unset] [])) _
    refine XS.iconst X101.here hx rfl (hb hby at_46) ?_
    show Steps p.tables e below (T101.setTop (mkF m 47 #[.val (.int p1), .val (.int p2), .val (.int (irm (p1 &&& (2147483647 : Int32)) (6 : Int32))), .val (.ref w), .unset, .unset, .unset] [(.int (1 : Int32))])) _
    refine XS.istore X101.here hx rfl (hb hby at_47) rfl (l' := #[.val (.int p1), .val (.int p2), .val (.int (irm (p1 &&& (2147483647 : Int32)) (6 : Int32))), .val (.ref w), .val (.int (1 : Int32)), .unset, .unset]) rfl ?_
    show Steps p.tables e below (T101.setTop (mkF m 49 #[.val (.int p1), .val (.int p2), .val (.int (irm (p1 &&& (2147483647 : Int32)) (6 : Int32))), .val (.ref w), .val (.int (1 : Int32)), .unset, .unset] [])) _
    refine XS.goto X101.here hx rfl (pc0 := 49) (pc' := 90) rfl (hb hby at_49) (by decide) (by decide) ?_
    show Steps p.tables e below (T101.setTop (mkF m 90 #[.val (.int p1), .val (.int p2), .val (.int (irm (p1 &&& (2147483647 : Int32)) (6 : Int32))), .val (.ref w), .val (.int (1 : Int32)), .unset, .unset] [])) _
    refine XS.iloadN X101.here hx rfl (hb hby at_90) rfl ?_
    show Steps p.tables e below (T101.setTop (mkF m 91 #[.val (.int p1), .val (.int p2), .val (.int (irm (p1 &&& (2147483647 : Int32)) (6 : Int32))), .val (.ref w), .val (.int (1 : Int32)), .unset, .unset] [(.int p2)])) _
    refine XS.ifYes X101.here hx rfl (pc0 := 91) (pc' := 100) rfl (hb hby at_91) rfl ((if0 _ _).trans (flt s1).2.1) (by decide) (by decide) ?_
    show Steps p.tables e below (T101.setTop (mkF m 100 #[.val (.int p1), .val (.int p2), .val (.int (irm (p1 &&& (2147483647 : Int32)) (6 : Int32))), .val (.ref w), .val (.int (1 : Int32)), .unset, .unset] [])) _
    refine XS.iloadN X101.here hx rfl (hb hby at_100) rfl ?_
    show Steps p.tables e below (T101.setTop (mkF m 101 #[.val (.int p1), .val (.int p2), .val (.int (irm (p1 &&& (2147483647 : Int32)) (6 : Int32))), .val (.ref w), .val (.int (1 : Int32)), .unset, .unset] [(.int p2)])) _
    refine XS.ifYes X101.here hx rfl (pc0 := 101) (pc' := 110) rfl (hb hby at_101) rfl ((if0 _ _).trans (feq s2).2) (by decide) (by decide) ?_
    show Steps p.tables e below (T101.setTop (mkF m 110 #[.val (.int p1), .val (.int p2), .val (.int (irm (p1 &&& (2147483647 : Int32)) (6 : Int32))), .val (.ref w), .val (.int (1 : Int32)), .unset, .unset] [])) _
    refine XS.iconst X101.here hx rfl (hb hby at_110) ?_
    show Steps p.tables e below (T101.setTop (mkF m 111 #[.val (.int p1), .val (.int p2), .val (.int (irm (p1 &&& (2147483647 : Int32)) (6 : Int32))), .val (.ref w), .val (.int (1 : Int32)), .unset, .unset] [(.int (2 : Int32))])) _
    refine XS.istore X101.here hx rfl (hb hby at_111) rfl (l' := #[.val (.int p1), .val (.int p2), .val (.int (irm (p1 &&& (2147483647 : Int32)) (6 : Int32))), .val (.ref w), .val (.int (1 : Int32)), .val (.int (2 : Int32)), .unset]) rfl ?_
    show Steps p.tables e below (T101.setTop (mkF m 113 #[.val (.int p1), .val (.int p2), .val (.int (irm (p1 &&& (2147483647 : Int32)) (6 : Int32))), .val (.ref w), .val (.int (1 : Int32)), .val (.int (2 : Int32)), .unset] [])) _
    refine XS.iload X101.here hx rfl (hb hby at_113) rfl ?_
    show Steps p.tables e below (T101.setTop (mkF m 115 #[.val (.int p1), .val (.int p2), .val (.int (irm (p1 &&& (2147483647 : Int32)) (6 : Int32))), .val (.ref w), .val (.int (1 : Int32)), .val (.int (2 : Int32)), .unset] [(.int (1 : Int32))])) _
    refine XS.iload X101.here hx rfl (hb hby at_115) rfl ?_
    show Steps p.tables e below (T101.setTop (mkF m 117 #[.val (.int p1), .val (.int p2), .val (.int (irm (p1 &&& (2147483647 : Int32)) (6 : Int32))), .val (.ref w), .val (.int (1 : Int32)), .val (.int (2 : Int32)), .unset] [(.int (2 : Int32)), (.int (1 : Int32))])) _
    refine XS.ishr X101.here hx rfl (hb hby at_117) rfl ?_
    show Steps p.tables e below (T101.setTop (mkF m 118 #[.val (.int p1), .val (.int p2), .val (.int (irm (p1 &&& (2147483647 : Int32)) (6 : Int32))), .val (.ref w), .val (.int (1 : Int32)), .val (.int (2 : Int32)), .unset] [(.int ((1 : Int32) >>> ((2 : Int32) &&& 31)))])) _
    refine XS.iconst X101.here hx rfl (hb hby at_118) ?_
    show Steps p.tables e below (T101.setTop (mkF m 119 #[.val (.int p1), .val (.int p2), .val (.int (irm (p1 &&& (2147483647 : Int32)) (6 : Int32))), .val (.ref w), .val (.int (1 : Int32)), .val (.int (2 : Int32)), .unset] [(.int (1 : Int32)), (.int ((1 : Int32) >>> ((2 : Int32) &&& 31)))])) _
    refine XS.iand X101.here hx rfl (hb hby at_119) rfl ?_
    show Steps p.tables e below (T101.setTop (mkF m 120 #[.val (.int p1), .val (.int p2), .val (.int (irm (p1 &&& (2147483647 : Int32)) (6 : Int32))), .val (.ref w), .val (.int (1 : Int32)), .val (.int (2 : Int32)), .unset] [(.int (((1 : Int32) >>> ((2 : Int32) &&& 31)) &&& (1 : Int32)))])) _
    refine XS.ifYes X101.here hx rfl (pc0 := 120) (pc' := 127) rfl (hb hby at_120) rfl ((if0 _ _).trans (teq (by decide : (((1 : Int32) >>> ((2 : Int32) &&& 31)) &&& (1 : Int32)) = (0 : Int32))).1) (by decide) (by decide) ?_
    show Steps p.tables e below (T101.setTop (mkF m 127 #[.val (.int p1), .val (.int p2), .val (.int (irm (p1 &&& (2147483647 : Int32)) (6 : Int32))), .val (.ref w), .val (.int (1 : Int32)), .val (.int (2 : Int32)), .unset] [])) _
    refine XS.iconst X101.here hx rfl (hb hby at_127) ?_
    show Steps p.tables e below (T101.setTop (mkF m 128 #[.val (.int p1), .val (.int p2), .val (.int (irm (p1 &&& (2147483647 : Int32)) (6 : Int32))), .val (.ref w), .val (.int (1 : Int32)), .val (.int (2 : Int32)), .unset] [(.int (0 : Int32))])) _
    refine XS.istore X101.here hx rfl (hb hby at_128) rfl (l' := #[.val (.int p1), .val (.int p2), .val (.int (irm (p1 &&& (2147483647 : Int32)) (6 : Int32))), .val (.ref w), .val (.int (1 : Int32)), .val (.int (2 : Int32)), .val (.int (0 : Int32))]) rfl ?_
    show Steps p.tables e below (T101.setTop (mkF m 130 #[.val (.int p1), .val (.int p2), .val (.int (irm (p1 &&& (2147483647 : Int32)) (6 : Int32))), .val (.ref w), .val (.int (1 : Int32)), .val (.int (2 : Int32)), .val (.int (0 : Int32))] [])) _
    refine XS.aloadN X101.here hx rfl (hb hby at_130) rfl rfl ?_
    show Steps p.tables e below (T101.setTop (mkF m 131 #[.val (.int p1), .val (.int p2), .val (.int (irm (p1 &&& (2147483647 : Int32)) (6 : Int32))), .val (.ref w), .val (.int (1 : Int32)), .val (.int (2 : Int32)), .val (.int (0 : Int32))] [(.ref w)])) _
    refine XS.iloadN X101.here hx rfl (hb hby at_131) rfl ?_
    show Steps p.tables e below (T101.setTop (mkF m 132 #[.val (.int p1), .val (.int p2), .val (.int (irm (p1 &&& (2147483647 : Int32)) (6 : Int32))), .val (.ref w), .val (.int (1 : Int32)), .val (.int (2 : Int32)), .val (.int (0 : Int32))] [(.int p2), (.ref w)])) _
    refine st102.trans ?_
    show Steps p.tables e below (T102.setTop (mkF m 135 #[.val (.int p1), .val (.int p2), .val (.int (irm (p1 &&& (2147483647 : Int32)) (6 : Int32))), .val (.ref w), .val (.int (1 : Int32)), .val (.int (2 : Int32)), .val (.int (0 : Int32))] [(.int (0 : Int32))])) _
    refine XS.iload X102.here hx rfl (hb hby at_135) rfl ?_
    show Steps p.tables e below (T102.setTop (mkF m 137 #[.val (.int p1), .val (.int p2), .val (.int (irm (p1 &&& (2147483647 : Int32)) (6 : Int32))), .val (.ref w), .val (.int (1 : Int32)), .val (.int (2 : Int32)), .val (.int (0 : Int32))] [(.int (0 : Int32)), (.int (0 : Int32))])) _
    refine XS.icmpNo X102.here hx rfl (hb hby at_137) rfl (teq (by decide : (0 : Int32) = (0 : Int32))).2 ?_
    show Steps p.tables e below (T102.setTop (mkF m 140 #[.val (.int p1), .val (.int p2), .val (.int (irm (p1 &&& (2147483647 : Int32)) (6 : Int32))), .val (.ref w), .val (.int (1 : Int32)), .val (.int (2 : Int32)), .val (.int (0 : Int32))] [])) _
    refine XS.iconst X102.here hx rfl (hb hby at_140) ?_
    show Steps p.tables e below (T102.setTop (mkF m 141 #[.val (.int p1), .val (.int p2), .val (.int (irm (p1 &&& (2147483647 : Int32)) (6 : Int32))), .val (.ref w), .val (.int (1 : Int32)), .val (.int (2 : Int32)), .val (.int (0 : Int32))] [(.int (1 : Int32))])) _
    refine XS.goto X102.here hx rfl (pc0 := 141) (pc' := 145) rfl (hb hby at_141) (by decide) (by decide) ?_
    show Steps p.tables e below (T102.setTop (mkF m 145 #[.val (.int p1), .val (.int p2), .val (.int (irm (p1 &&& (2147483647 : Int32)) (6 : Int32))), .val (.ref w), .val (.int (1 : Int32)), .val (.int (2 : Int32)), .val (.int (0 : Int32))] [(.int (1 : Int32))])) _
    exact retN X102 hx (t := .boolean) Bd.returns (by simp) (hb hby at_145) hr
  · show Q0 h0 n0 _ T102.heap _
    rw [e102]
    exact ⟨rfl, N102⟩
set_option maxRecDepth 65536 in
set_option maxHeartbeats 40000000 in
theorem rm0_3l (l : Launch) (Z : State) (a0 : Array Value) (hw : ∀ d ∈ tables_1, d.before a0 Z = true) (ws : List Jvm.Cond) (p1 p2 : Int32) (w : Addr) (h0 : Heap) (n0 : Nat) (O0 : Old Z n0 h0) (S : Sta Z Z.heap "com/example/plugroot/plugroot/sql/Comparison" "GREATER" "Lcom/example/plugroot/plugroot/sql/Comparison;" (.ref w)) (E : Exa Z Z.heap w "com/example/plugroot/plugroot/sql/Comparison") (F_o : Fld Z Z.heap w "java/lang/Enum" "ordinal" "I" (.int 3)) (k0 : ¬ ((irm (p1 &&& (2147483647 : Int32)) (6 : Int32)) = 0)) (k1 : ¬ ((irm (p1 &&& (2147483647 : Int32)) (6 : Int32)) = 1)) (k2 : ¬ ((irm (p1 &&& (2147483647 : Int32)) (6 : Int32)) = 2)) (k3 : (irm (p1 &&& (2147483647 : Int32)) (6 : Int32)) = 3) (s1 : p2 < 0) :
    MetFree l x (head1 (Jvm.Cond.code x code maxLocals ret :: ws) room_1) (fun a_ U => a_ = #[(.int p1), (.int p2)] ∧ Z.Warmed39 U.vm ∧ U.heap = h0) (fun _ _ _ _ _ => True) (fun _ U o U' => ∃ v L, o = .returned v ∧ Q0 h0 n0 v U'.heap L ∧ FrameEnd U o U' L room_1.cells room_1.slots) := by
  refine MetFree.of_bodySF (plainFor_of_name pn_2) hisR ?_
  intro p e s m args below meth c s₁ Bd hml0 hP hK
  obtain ⟨rfl, hZ, hh⟩ := hP
  have hx := Bd.exec
  have hby := Bd.bytes
  have hml : c.maxLocals = 7 := hml0
  have hown : s.vm.findClass "com/example/plugroot/plugroot/sql/ComparisonHoldsPinLaw" = some m.cls := findClass_of_methodNamed Bd.named
  have hnm := (name_of_methodNamed Bd.named Bd.method).1
  have X0 : Stand p l e room_1 s m #[(.int p1), (.int p2)] below meth c s₁ [] 0 0 := Stand.of_body Bd
  have e0 : s₁.heap = h0 := by rw [← hh, Bd.state]; rfl
  have N0 := Fr.nil n0
  have pre0 : ∀ tg, Steps p.tables e below (s₁.setTop (mkF m 0 #[.val (.int p1), .val (.int p2), .unset, .unset, .unset, .unset, .unset] [])) tg → Steps p.tables e below (s₁.setTop (entryFrame m #[(.int p1), (.int p2)] maxLocals)) tg := fun tg kq => castTop (ef_II_7m m p1 p2) kq
  obtain ⟨T101, X101, e101, st101⟩ := getS2 X0 hx hZ hown (host := "") (Or.inl (wi hw 26 rfl)) Via.refl e0 (S.ext O0.2) (g := (mkF m 57 #[.val (.int p1), .val (.int p2), .val (.int (irm (p1 &&& (2147483647 : Int32)) (6 : Int32))), .unset, .unset, .unset, .unset] [])) rfl (hb hby at_57)
  obtain ⟨cq102, kq102, q102a, q102b, q102c⟩ := isOf hZ e101 (E.ext O0.2)
  obtain ⟨_, _, ⟨T102, L102, k102, n102⟩, -, X102, ⟨Lc102, hQ102, l102, y102, z102⟩, st102⟩ := X101.virtualBack hx (y := (⟨"com/example/plugroot/plugroot/sql/Comparison", "holds", "(I)Z"⟩ : MethodName)) (z := (⟨"com/example/plugroot/plugroot/sql/Comparison", "holds", "(I)Z"⟩ : MethodName)) hown (mvT hZ (wi hw 4 rfl)) (mvT hZ (wi hw 5 rfl)) (notFace_of_selects (args := #[]) (mvT hZ (wi hw 7 rfl))) (mvT hZ (wi hw 7 rfl)) (mvT hZ (wi hw 6 rfl)) (by decide) (backOf (W := 0) (rm1_3t l Z a0 hw [] w p2 h0 n0 O0 F_o E (own_sg_lt s1).2) hZ (wi hw 8 rfl) (wi hw 2 rfl) (by decide) (by decide)) q102a q102c (g := (mkF m 132 #[.val (.int p1), .val (.int p2), .val (.int (irm (p1 &&& (2147483647 : Int32)) (6 : Int32))), .val (.ref w), .val (.int (4 : Int32)), .val (.int (0 : Int32)), .val (.int (0 : Int32))] [(.int p2), (.ref w)])) rfl (by rw [hml]; rfl) (Steps.refl _) (argsL := [(.int p2)]) (rest := []) (lenOf pd_1 rfl) rfl (by show 2 * 0 + _ ≤ _; exact Nat.le_of_eq rfl) (hb hby at_132) (fun _ _ => ⟨rfl, e101, (by decide : 0 + 0 ≤ _), (by decide : 0 + 0 ≤ _)⟩)
  dsimp only [Pt.U, Pt.locs, Pt.cells, Pt.slots] at X102 l102 y102 z102 st102 hQ102
  subst l102 y102 z102
  obtain ⟨rfl, N102q, hh102⟩ := hQ102
  have e102 : T102.heap = h0 := hh102
  have N102 := Fr.app N0 N102q
  obtain ⟨fs, hr, hrun, hended, hW, hsame⟩ := X102.leave (v := some (.int (1 : Int32))) (fun h => by rw [Bd.returns] at h; cases h)
  refine ⟨_, _, pre0 _ ?_, hrun, hended, _, _, rfl, ?_, ⟨_, rfl⟩, hW, hsame.mono (by decide) (by decide)⟩
  · show Steps p.tables e below (s₁.setTop (mkF m 0 #[.val (.int p1), .val (.int p2), .unset, .unset, .unset, .unset, .unset] [])) _
    refine XS.iloadN X0.here hx rfl (hb hby at_0) rfl ?_
    show Steps p.tables e below (s₁.setTop (mkF m 1 #[.val (.int p1), .val (.int p2), .unset, .unset, .unset, .unset, .unset] [(.int p1)])) _
    refine X0.ldcInt hx hown (mvT hZ (wi hw 0 rfl)) (g := (mkF m 1 #[.val (.int p1), .val (.int p2), .unset, .unset, .unset, .unset, .unset] [(.int p1)])) rfl (hb hby at_1) _ ?_
    show Steps p.tables e below (s₁.setTop (mkF m 3 #[.val (.int p1), .val (.int p2), .unset, .unset, .unset, .unset, .unset] [(.int (2147483647 : Int32)), (.int p1)])) _
    refine XS.iand X0.here hx rfl (hb hby at_3) rfl ?_
    show Steps p.tables e below (s₁.setTop (mkF m 4 #[.val (.int p1), .val (.int p2), .unset, .unset, .unset, .unset, .unset] [(.int (p1 &&& (2147483647 : Int32)))])) _
    refine XS.bipush X0.here hx rfl (hb hby at_4) ?_
    show Steps p.tables e below (s₁.setTop (mkF m 6 #[.val (.int p1), .val (.int p2), .unset, .unset, .unset, .unset, .unset] [(.int (6 : Int32)), (.int (p1 &&& (2147483647 : Int32)))])) _
    refine XS.irem X0.here hx rfl (hb hby at_6) rfl (by decide) ?_
    show Steps p.tables e below (s₁.setTop (mkF m 7 #[.val (.int p1), .val (.int p2), .unset, .unset, .unset, .unset, .unset] [(.int (irm (p1 &&& (2147483647 : Int32)) (6 : Int32)))])) _
    refine XS.istoreN X0.here hx rfl (hb hby at_7) rfl (l' := #[.val (.int p1), .val (.int p2), .val (.int (irm (p1 &&& (2147483647 : Int32)) (6 : Int32))), .unset, .unset, .unset, .unset]) rfl ?_
    show Steps p.tables e below (s₁.setTop (mkF m 8 #[.val (.int p1), .val (.int p2), .val (.int (irm (p1 &&& (2147483647 : Int32)) (6 : Int32))), .unset, .unset, .unset, .unset] [])) _
    refine XS.iloadN X0.here hx rfl (hb hby at_8) rfl ?_
    show Steps p.tables e below (s₁.setTop (mkF m 9 #[.val (.int p1), .val (.int p2), .val (.int (irm (p1 &&& (2147483647 : Int32)) (6 : Int32))), .unset, .unset, .unset, .unset] [(.int (irm (p1 &&& (2147483647 : Int32)) (6 : Int32)))])) _
    refine XS.ifYes X0.here hx rfl (pc0 := 9) (pc' := 22) rfl (hb hby at_9) rfl ((if0 _ _).trans (feq k0).2) (by decide) (by decide) ?_
    show Steps p.tables e below (s₁.setTop (mkF m 22 #[.val (.int p1), .val (.int p2), .val (.int (irm (p1 &&& (2147483647 : Int32)) (6 : Int32))), .unset, .unset, .unset, .unset] [])) _
    refine XS.iloadN X0.here hx rfl (hb hby at_22) rfl ?_
    show Steps p.tables e below (s₁.setTop (mkF m 23 #[.val (.int p1), .val (.int p2), .val (.int (irm (p1 &&& (2147483647 : Int32)) (6 : Int32))), .unset, .unset, .unset, .unset] [(.int (irm (p1 &&& (2147483647 : Int32)) (6 : Int32)))])) _
    refine XS.iconst X0.here hx rfl (hb hby at_23) ?_
    show Steps p.tables e below (s₁.setTop (mkF m 24 #[.val (.int p1), .val (.int p2), .val (.int (irm (p1 &&& (2147483647 : Int32)) (6 : Int32))), .unset, .unset, .unset, .unset] [(.int (1 : Int32)), (.int (irm (p1 &&& (2147483647 : Int32)) (6 : Int32)))])) _
    refine XS.icmpYes X0.here hx rfl (pc0 := 24) (pc' := 37) rfl (hb hby at_24) rfl (feq k1).2 (by decide) (by decide) ?_
    show Steps p.tables e below (s₁.setTop (mkF m 37 #[.val (.int p1), .val (.int p2), .val (.int (irm (p1 &&& (2147483647 : Int32)) (6 : Int32))), .unset, .unset, .unset, .unset] [])) _
    refine XS.iloadN X0.here hx rfl (hb hby at_37) rfl ?_
    show Steps p.tables e below (s₁.setTop (mkF m 38 #[.val (.int p1), .val (.int p2), .val (.int (irm (p1 &&& (2147483647 : Int32)) (6 : Int32))), .unset, .unset, .unset, .unset] [(.int (irm (p1 &&& (2147483647 : Int32)) (6 : Int32)))])) _
    refine XS.iconst X0.here hx rfl (hb hby at_38) ?_
    show Steps p.tables e below (s₁.setTop (mkF m 39 #[.val (.int p1), .val (.int p2), .val (.int (irm (p1 &&& (2147483647 : Int32)) (6 : Int32))), .unset, .unset, .unset, .unset] [(.int (2 : Int32)), (.int (irm (p1 &&& (2147483647 : Int32)) (6 : Int32)))])) _
    refine XS.icmpYes X0.here hx rfl (pc0 := 39) (pc' := 52) rfl (hb hby at_39) rfl (feq k2).2 (by decide) (by decide) ?_
    show Steps p.tables e below (s₁.setTop (mkF m 52 #[.val (.int p1), .val (.int p2), .val (.int (irm (p1 &&& (2147483647 : Int32)) (6 : Int32))), .unset, .unset, .unset, .unset] [])) _
    refine XS.iloadN X0.here hx rfl (hb hby at_52) rfl ?_
    show Steps p.tables e below (s₁.setTop (mkF m 53 #[.val (.int p1), .val (.int p2), .val (.int (irm (p1 &&& (2147483647 : Int32)) (6 : Int32))), .unset, .unset, .unset, .unset] [(.int (irm (p1 &&& (2147483647 : Int32)) (6 : Int32)))])) _
    refine XS.iconst X0.here hx rfl (hb hby at_53) ?_
    show Steps p.tables e below (s₁.setTop (mkF m 54 #[.val (.int p1), .val (.int p2), .val (.int (irm (p1 &&& (2147483647 : Int32)) (6 : Int32))), .unset, .unset, .unset, .unset] [(.int (3 : Int32)), (.int (irm (p1 &&& (2147483647 : Int32)) (6 : Int32)))])) _
    refine XS.icmpNo X0.here hx rfl (hb hby at_54) rfl (teq k3).2 ?_
    show Steps p.tables e below (s₁.setTop (mkF m 57 #[.val (.int p1), .val (.int p2), .val (.int (irm (p1 &&& (2147483647 : Int32)) (6 : Int32))), .unset, .unset, .unset, .unset] [])) _
    refine st101 _ ?_
    show Steps p.tables e below (T101.setTop (mkF m 60 #[.val (.int p1), .val (.int p2), .val (.int (irm (p1 &&& (2147483647 : Int32)) (6 : Int32))), .unset, .unset, .unset, .unset] [(.ref w)])) _
    refine XS.astoreN X101.here hx rfl (hb hby at_60) rfl rfl (l' := #[.val (.int p1), .val (.int p2), .val (.int (irm (p1 &&& (2147483647 : Int32)) (6 : Int32))), .val (.ref w), .unset, .unset, .unset]) rfl ?_
    show Steps p.tables e below (T101.setTop (mkF m 61 #[.val (.int p1), .val (.int p2), .val (.int (irm (p1 &&& (2147483647 : Int32)) (6 : Int32))), .val (.ref w), .unset, .unset, .unset] [])) _
    refine XS.iconst X101.here hx rfl (hb hby at_61) ?_
    show Steps p.tables e below (T101.setTop (mkF m 62 #[.val (.int p1), .val (.int p2), .val (.int (irm (p1 &&& (2147483647 : Int32)) (6 : Int32))), .val (.ref w), .unset, .unset, .unset] [(.int (4 : Int32))])) _
    refine XS.istore X101.here hx rfl (hb hby at_62) rfl (l' := #[.val (.int p1), .val (.int p2), .val (.int (irm (p1 &&& (2147483647 : Int32)) (6 : Int32))), .val (.ref w), .val (.int (4 : Int32)), .unset, .unset]) rfl ?_
    show Steps p.tables e below (T101.setTop (mkF m 64 #[.val (.int p1), .val (.int p2), .val (.int (irm (p1 &&& (2147483647 : Int32)) (6 : Int32))), .val (.ref w), .val (.int (4 : Int32)), .unset, .unset] [])) _
    refine XS.goto X101.here hx rfl (pc0 := 64) (pc' := 90) rfl (hb hby at_64) (by decide) (by decide) ?_
    show Steps p.tables e below (T101.setTop (mkF m 90 #[.val (.int p1), .val (.int p2), .val (.int (irm (p1 &&& (2147483647 : Int32)) (6 : Int32))), .val (.ref w), .val (.int (4 : Int32)), .unset, .unset] [])) _
    refine XS.iloadN X101.here hx rfl (hb hby at_90) rfl ?_
    show Steps p.tables e below (T101.setTop (mkF m 91 #[.val (.int p1), .val (.int p2), .val (.int (irm (p1 &&& (2147483647 : Int32)) (6 : Int32))), .val (.ref w), .val (.int (4 : Int32)), .unset, .unset] [(.int p2)])) _
    refine XS.ifNo X101.here hx rfl (hb hby at_91) rfl ((if0 _ _).trans (tlt s1).2.1) ?_
    show Steps p.tables e below (T101.setTop (mkF m 94 #[.val (.int p1), .val (.int p2), .val (.int (irm (p1 &&& (2147483647 : Int32)) (6 : Int32))), .val (.ref w), .val (.int (4 : Int32)), .unset, .unset] [])) _
    refine XS.iconst X101.here hx rfl (hb hby at_94) ?_
    show Steps p.tables e below (T101.setTop (mkF m 95 #[.val (.int p1), .val (.int p2), .val (.int (irm (p1 &&& (2147483647 : Int32)) (6 : Int32))), .val (.ref w), .val (.int (4 : Int32)), .unset, .unset] [(.int (0 : Int32))])) _
    refine XS.istore X101.here hx rfl (hb hby at_95) rfl (l' := #[.val (.int p1), .val (.int p2), .val (.int (irm (p1 &&& (2147483647 : Int32)) (6 : Int32))), .val (.ref w), .val (.int (4 : Int32)), .val (.int (0 : Int32)), .unset]) rfl ?_
    show Steps p.tables e below (T101.setTop (mkF m 97 #[.val (.int p1), .val (.int p2), .val (.int (irm (p1 &&& (2147483647 : Int32)) (6 : Int32))), .val (.ref w), .val (.int (4 : Int32)), .val (.int (0 : Int32)), .unset] [])) _
    refine XS.goto X101.here hx rfl (pc0 := 97) (pc' := 113) rfl (hb hby at_97) (by decide) (by decide) ?_
    show Steps p.tables e below (T101.setTop (mkF m 113 #[.val (.int p1), .val (.int p2), .val (.int (irm (p1 &&& (2147483647 : Int32)) (6 : Int32))), .val (.ref w), .val (.int (4 : Int32)), .val (.int (0 : Int32)), .unset] [])) _
    refine XS.iload X101.here hx rfl (hb hby at_113) rfl ?_
    show Steps p.tables e below (T101.setTop (mkF m 115 #[.val (.int p1), .val (.int p2), .val (.int (irm (p1 &&& (2147483647 : Int32)) (6 : Int32))), .val (.ref w), .val (.int (4 : Int32)), .val (.int (0 : Int32)), .unset] [(.int (4 : Int32))])) _
    refine XS.iload X101.here hx rfl (hb hby at_115) rfl ?_
    show Steps p.tables e below (T101.setTop (mkF m 117 #[.val (.int p1), .val (.int p2), .val (.int (irm (p1 &&& (2147483647 : Int32)) (6 : Int32))), .val (.ref w), .val (.int (4 : Int32)), .val (.int (0 : Int32)), .unset] [(.int (0 : Int32)), (.int (4 : Int32))])) _
    refine XS.ishr X101.here hx rfl (hb hby at_117) rfl ?_
    show Steps p.tables e below (T101.setTop (mkF m 118 #[.val (.int p1), .val (.int p2), .val (.int (irm (p1 &&& (2147483647 : Int32)) (6 : Int32))), .val (.ref w), .val (.int (4 : Int32)), .val (.int (0 : Int32)), .unset] [(.int ((4 : Int32) >>> ((0 : Int32) &&& 31)))])) _
    refine XS.iconst X101.here hx rfl (hb hby at_118) ?_
    show Steps p.tables e below (T101.setTop (mkF m 119 #[.val (.int p1), .val (.int p2), .val (.int (irm (p1 &&& (2147483647 : Int32)) (6 : Int32))), .val (.ref w), .val (.int (4 : Int32)), .val (.int (0 : Int32)), .unset] [(.int (1 : Int32)), (.int ((4 : Int32) >>> ((0 : Int32) &&& 31)))])) _
    refine XS.iand X101.here hx rfl (hb hby at_119) rfl ?_
    show Steps p.tables e below (T101.setTop (mkF m 120 #[.val (.int p1), .val (.int p2), .val (.int (irm (p1 &&& (2147483647 : Int32)) (6 : Int32))), .val (.ref w), .val (.int (4 : Int32)), .val (.int (0 : Int32)), .unset] [(.int (((4 : Int32) >>> ((0 : Int32) &&& 31)) &&& (1 : Int32)))])) _
    refine XS.ifYes X101.here hx rfl (pc0 := 120) (pc' := 127) rfl (hb hby at_120) rfl ((if0 _ _).trans (teq (by decide : (((4 : Int32) >>> ((0 : Int32) &&& 31)) &&& (1 : Int32)) = (0 : Int32))).1) (by decide) (by decide) ?_
    show Steps p.tables e below (T101.setTop (mkF m 127 #[.val (.int p1), .val (.int p2), .val (.int (irm (p1 &&& (2147483647 : Int32)) (6 : Int32))), .val (.ref w), .val (.int (4 : Int32)), .val (.int (0 : Int32)), .unset] [])) _
    refine XS.iconst X101.here hx rfl (hb hby at_127) ?_
    show Steps p.tables e below (T101.setTop (mkF m 128 #[.val (.int p1), .val (.int p2), .val (.int (irm (p1 &&& (2147483647 : Int32)) (6 : Int32))), .val (.ref w), .val (.int (4 : Int32)), .val (.int (0 : Int32)), .unset] [(.int (0 : Int32))])) _
    refine XS.istore X101.here hx rfl (hb hby at_128) rfl (l' := #[.val (.int p1), .val (.int p2), .val (.int (irm (p1 &&& (2147483647 : Int32)) (6 : Int32))), .val (.ref w), .val (.int (4 : Int32)), .val (.int (0 : Int32)), .val (.int (0 : Int32))]) rfl ?_
    show Steps p.tables e below (T101.setTop (mkF m 130 #[.val (.int p1), .val (.int p2), .val (.int (irm (p1 &&& (2147483647 : Int32)) (6 : Int32))), .val (.ref w), .val (.int (4 : Int32)), .val (.int (0 : Int32)), .val (.int (0 : Int32))] [])) _
    refine XS.aloadN X101.here hx rfl (hb hby at_130) rfl rfl ?_
    show Steps p.tables e below (T101.setTop (mkF m 131 #[.val (.int p1), .val (.int p2), .val (.int (irm (p1 &&& (2147483647 : Int32)) (6 : Int32))), .val (.ref w), .val (.int (4 : Int32)), .val (.int (0 : Int32)), .val (.int (0 : Int32))] [(.ref w)])) _
    refine XS.iloadN X101.here hx rfl (hb hby at_131) rfl ?_
    show Steps p.tables e below (T101.setTop (mkF m 132 #[.val (.int p1), .val (.int p2), .val (.int (irm (p1 &&& (2147483647 : Int32)) (6 : Int32))), .val (.ref w), .val (.int (4 : Int32)), .val (.int (0 : Int32)), .val (.int (0 : Int32))] [(.int p2), (.ref w)])) _
    refine st102.trans ?_
    show Steps p.tables e below (T102.setTop (mkF m 135 #[.val (.int p1), .val (.int p2), .val (.int (irm (p1 &&& (2147483647 : Int32)) (6 : Int32))), .val (.ref w), .val (.int (4 : Int32)), .val (.int (0 : Int32)), .val (.int (0 : Int32))] [(.int (0 : Int32))])) _
    refine XS.iload X102.here hx rfl (hb hby at_135) rfl ?_
    show Steps p.tables e below (T102.setTop (mkF m 137 #[.val (.int p1), .val (.int p2), .val (.int (irm (p1 &&& (2147483647 : Int32)) (6 : Int32))), .val (.ref w), .val (.int (4 : Int32)), .val (.int (0 : Int32)), .val (.int (0 : Int32))] [(.int (0 : Int32)), (.int (0 : Int32))])) _
    refine XS.icmpNo X102.here hx rfl (hb hby at_137) rfl (teq (by decide : (0 : Int32) = (0 : Int32))).2 ?_
    show Steps p.tables e below (T102.setTop (mkF m 140 #[.val (.int p1), .val (.int p2), .val (.int (irm (p1 &&& (2147483647 : Int32)) (6 : Int32))), .val (.ref w), .val (.int (4 : Int32)), .val (.int (0 : Int32)), .val (.int (0 : Int32))] [])) _
    refine XS.iconst X102.here hx rfl (hb hby at_140) ?_
    show Steps p.tables e below (T102.setTop (mkF m 141 #[.val (.int p1), .val (.int p2), .val (.int (irm (p1 &&& (2147483647 : Int32)) (6 : Int32))), .val (.ref w), .val (.int (4 : Int32)), .val (.int (0 : Int32)), .val (.int (0 : Int32))] [(.int (1 : Int32))])) _
    refine XS.goto X102.here hx rfl (pc0 := 141) (pc' := 145) rfl (hb hby at_141) (by decide) (by decide) ?_
    show Steps p.tables e below (T102.setTop (mkF m 145 #[.val (.int p1), .val (.int p2), .val (.int (irm (p1 &&& (2147483647 : Int32)) (6 : Int32))), .val (.ref w), .val (.int (4 : Int32)), .val (.int (0 : Int32)), .val (.int (0 : Int32))] [(.int (1 : Int32))])) _
    exact retN X102 hx (t := .boolean) Bd.returns (by simp) (hb hby at_145) hr
  · show Q0 h0 n0 _ T102.heap _
    rw [e102]
    exact ⟨rfl, N102⟩
set_option maxRecDepth 65536 in
set_option maxHeartbeats 40000000 in
theorem rm0_3e (l : Launch) (Z : State) (a0 : Array Value) (hw : ∀ d ∈ tables_1, d.before a0 Z = true) (ws : List Jvm.Cond) (p1 p2 : Int32) (w : Addr) (h0 : Heap) (n0 : Nat) (O0 : Old Z n0 h0) (S : Sta Z Z.heap "com/example/plugroot/plugroot/sql/Comparison" "GREATER" "Lcom/example/plugroot/plugroot/sql/Comparison;" (.ref w)) (E : Exa Z Z.heap w "com/example/plugroot/plugroot/sql/Comparison") (F_o : Fld Z Z.heap w "java/lang/Enum" "ordinal" "I" (.int 3)) (k0 : ¬ ((irm (p1 &&& (2147483647 : Int32)) (6 : Int32)) = 0)) (k1 : ¬ ((irm (p1 &&& (2147483647 : Int32)) (6 : Int32)) = 1)) (k2 : ¬ ((irm (p1 &&& (2147483647 : Int32)) (6 : Int32)) = 2)) (k3 : (irm (p1 &&& (2147483647 : Int32)) (6 : Int32)) = 3) (s1 : ¬ (p2 < 0)) (s2 : p2 = 0) :
    MetFree l x (head1 (Jvm.Cond.code x code maxLocals ret :: ws) room_1) (fun a_ U => a_ = #[(.int p1), (.int p2)] ∧ Z.Warmed39 U.vm ∧ U.heap = h0) (fun _ _ _ _ _ => True) (fun _ U o U' => ∃ v L, o = .returned v ∧ Q0 h0 n0 v U'.heap L ∧ FrameEnd U o U' L room_1.cells room_1.slots) := by
  refine MetFree.of_bodySF (plainFor_of_name pn_2) hisR ?_
  intro p e s m args below meth c s₁ Bd hml0 hP hK
  obtain ⟨rfl, hZ, hh⟩ := hP
  have hx := Bd.exec
  have hby := Bd.bytes
  have hml : c.maxLocals = 7 := hml0
  have hown : s.vm.findClass "com/example/plugroot/plugroot/sql/ComparisonHoldsPinLaw" = some m.cls := findClass_of_methodNamed Bd.named
  have hnm := (name_of_methodNamed Bd.named Bd.method).1
  have X0 : Stand p l e room_1 s m #[(.int p1), (.int p2)] below meth c s₁ [] 0 0 := Stand.of_body Bd
  have e0 : s₁.heap = h0 := by rw [← hh, Bd.state]; rfl
  have N0 := Fr.nil n0
  have pre0 : ∀ tg, Steps p.tables e below (s₁.setTop (mkF m 0 #[.val (.int p1), .val (.int p2), .unset, .unset, .unset, .unset, .unset] [])) tg → Steps p.tables e below (s₁.setTop (entryFrame m #[(.int p1), (.int p2)] maxLocals)) tg := fun tg kq => castTop (ef_II_7m m p1 p2) kq
  obtain ⟨T101, X101, e101, st101⟩ := getS2 X0 hx hZ hown (host := "") (Or.inl (wi hw 26 rfl)) Via.refl e0 (S.ext O0.2) (g := (mkF m 57 #[.val (.int p1), .val (.int p2), .val (.int (irm (p1 &&& (2147483647 : Int32)) (6 : Int32))), .unset, .unset, .unset, .unset] [])) rfl (hb hby at_57)
  obtain ⟨cq102, kq102, q102a, q102b, q102c⟩ := isOf hZ e101 (E.ext O0.2)
  obtain ⟨_, _, ⟨T102, L102, k102, n102⟩, -, X102, ⟨Lc102, hQ102, l102, y102, z102⟩, st102⟩ := X101.virtualBack hx (y := (⟨"com/example/plugroot/plugroot/sql/Comparison", "holds", "(I)Z"⟩ : MethodName)) (z := (⟨"com/example/plugroot/plugroot/sql/Comparison", "holds", "(I)Z"⟩ : MethodName)) hown (mvT hZ (wi hw 4 rfl)) (mvT hZ (wi hw 5 rfl)) (notFace_of_selects (args := #[]) (mvT hZ (wi hw 7 rfl))) (mvT hZ (wi hw 7 rfl)) (mvT hZ (wi hw 6 rfl)) (by decide) (backOf (W := 0) (rm1_3t l Z a0 hw [] w p2 h0 n0 O0 F_o E (own_sg_eq s2).2) hZ (wi hw 8 rfl) (wi hw 2 rfl) (by decide) (by decide)) q102a q102c (g := (mkF m 132 #[.val (.int p1), .val (.int p2), .val (.int (irm (p1 &&& (2147483647 : Int32)) (6 : Int32))), .val (.ref w), .val (.int (4 : Int32)), .val (.int (1 : Int32)), .val (.int (0 : Int32))] [(.int p2), (.ref w)])) rfl (by rw [hml]; rfl) (Steps.refl _) (argsL := [(.int p2)]) (rest := []) (lenOf pd_1 rfl) rfl (by show 2 * 0 + _ ≤ _; exact Nat.le_of_eq rfl) (hb hby at_132) (fun _ _ => ⟨rfl, e101, (by decide : 0 + 0 ≤ _), (by decide : 0 + 0 ≤ _)⟩)
  dsimp only [Pt.U, Pt.locs, Pt.cells, Pt.slots] at X102 l102 y102 z102 st102 hQ102
  subst l102 y102 z102
  obtain ⟨rfl, N102q, hh102⟩ := hQ102
  have e102 : T102.heap = h0 := hh102
  have N102 := Fr.app N0 N102q
  obtain ⟨fs, hr, hrun, hended, hW, hsame⟩ := X102.leave (v := some (.int (1 : Int32))) (fun h => by rw [Bd.returns] at h; cases h)
  refine ⟨_, _, pre0 _ ?_, hrun, hended, _, _, rfl, ?_, ⟨_, rfl⟩, hW, hsame.mono (by decide) (by decide)⟩
  · show Steps p.tables e below (s₁.setTop (mkF m 0 #[.val (.int p1), .val (.int p2), .unset, .unset, .unset, .unset, .unset] [])) _
    refine XS.iloadN X0.here hx rfl (hb hby at_0) rfl ?_
    show Steps p.tables e below (s₁.setTop (mkF m 1 #[.val (.int p1), .val (.int p2), .unset, .unset, .unset, .unset, .unset] [(.int p1)])) _
    refine X0.ldcInt hx hown (mvT hZ (wi hw 0 rfl)) (g := (mkF m 1 #[.val (.int p1), .val (.int p2), .unset, .unset, .unset, .unset, .unset] [(.int p1)])) rfl (hb hby at_1) _ ?_
    show Steps p.tables e below (s₁.setTop (mkF m 3 #[.val (.int p1), .val (.int p2), .unset, .unset, .unset, .unset, .unset] [(.int (2147483647 : Int32)), (.int p1)])) _
    refine XS.iand X0.here hx rfl (hb hby at_3) rfl ?_
    show Steps p.tables e below (s₁.setTop (mkF m 4 #[.val (.int p1), .val (.int p2), .unset, .unset, .unset, .unset, .unset] [(.int (p1 &&& (2147483647 : Int32)))])) _
    refine XS.bipush X0.here hx rfl (hb hby at_4) ?_
    show Steps p.tables e below (s₁.setTop (mkF m 6 #[.val (.int p1), .val (.int p2), .unset, .unset, .unset, .unset, .unset] [(.int (6 : Int32)), (.int (p1 &&& (2147483647 : Int32)))])) _
    refine XS.irem X0.here hx rfl (hb hby at_6) rfl (by decide) ?_
    show Steps p.tables e below (s₁.setTop (mkF m 7 #[.val (.int p1), .val (.int p2), .unset, .unset, .unset, .unset, .unset] [(.int (irm (p1 &&& (2147483647 : Int32)) (6 : Int32)))])) _
    refine XS.istoreN X0.here hx rfl (hb hby at_7) rfl (l' := #[.val (.int p1), .val (.int p2), .val (.int (irm (p1 &&& (2147483647 : Int32)) (6 : Int32))), .unset, .unset, .unset, .unset]) rfl ?_
    show Steps p.tables e below (s₁.setTop (mkF m 8 #[.val (.int p1), .val (.int p2), .val (.int (irm (p1 &&& (2147483647 : Int32)) (6 : Int32))), .unset, .unset, .unset, .unset] [])) _
    refine XS.iloadN X0.here hx rfl (hb hby at_8) rfl ?_
    show Steps p.tables e below (s₁.setTop (mkF m 9 #[.val (.int p1), .val (.int p2), .val (.int (irm (p1 &&& (2147483647 : Int32)) (6 : Int32))), .unset, .unset, .unset, .unset] [(.int (irm (p1 &&& (2147483647 : Int32)) (6 : Int32)))])) _
    refine XS.ifYes X0.here hx rfl (pc0 := 9) (pc' := 22) rfl (hb hby at_9) rfl ((if0 _ _).trans (feq k0).2) (by decide) (by decide) ?_
    show Steps p.tables e below (s₁.setTop (mkF m 22 #[.val (.int p1), .val (.int p2), .val (.int (irm (p1 &&& (2147483647 : Int32)) (6 : Int32))), .unset, .unset, .unset, .unset] [])) _
    refine XS.iloadN X0.here hx rfl (hb hby at_22) rfl ?_
    show Steps p.tables e below (s₁.setTop (mkF m 23 #[.val (.int p1), .val (.int p2), .val (.int (irm (p1 &&& (2147483647 : Int32)) (6 : Int32))), .unset, .unset, .unset, .unset] [(.int (irm (p1 &&& (2147483647 : Int32)) (6 : Int32)))])) _
    refine XS.iconst X0.here hx rfl (hb hby at_23) ?_
    show Steps p.tables e below (s₁.setTop (mkF m 24 #[.val (.int p1), .val (.int p2), .val (.int (irm (p1 &&& (2147483647 : Int32)) (6 : Int32))), .unset, .unset, .unset, .unset] [(.int (1 : Int32)), (.int (irm (p1 &&& (2147483647 : Int32)) (6 : Int32)))])) _
    refine XS.icmpYes X0.here hx rfl (pc0 := 24) (pc' := 37) rfl (hb hby at_24) rfl (feq k1).2 (by decide) (by decide) ?_
    show Steps p.tables e below (s₁.setTop (mkF m 37 #[.val (.int p1), .val (.int p2), .val (.int (irm (p1 &&& (2147483647 : Int32)) (6 : Int32))), .unset, .unset, .unset, .unset] [])) _
    refine XS.iloadN X0.here hx rfl (hb hby at_37) rfl ?_
    show Steps p.tables e below (s₁.setTop (mkF m 38 #[.val (.int p1), .val (.int p2), .val (.int (irm (p1 &&& (2147483647 : Int32)) (6 : Int32))), .unset, .unset, .unset, .unset] [(.int (irm (p1 &&& (2147483647 : Int32)) (6 : Int32)))])) _
    refine XS.iconst X0.here hx rfl (hb hby at_38) ?_
    show Steps p.tables e below (s₁.setTop (mkF m 39 #[.val (.int p1), .val (.int p2), .val (.int (irm (p1 &&& (2147483647 : Int32)) (6 : Int32))), .unset, .unset, .unset, .unset] [(.int (2 : Int32)), (.int (irm (p1 &&& (2147483647 : Int32)) (6 : Int32)))])) _
    refine XS.icmpYes X0.here hx rfl (pc0 := 39) (pc' := 52) rfl (hb hby at_39) rfl (feq k2).2 (by decide) (by decide) ?_
    show Steps p.tables e below (s₁.setTop (mkF m 52 #[.val (.int p1), .val (.int p2), .val (.int (irm (p1 &&& (2147483647 : Int32)) (6 : Int32))), .unset, .unset, .unset, .unset] [])) _
    refine XS.iloadN X0.here hx rfl (hb hby at_52) rfl ?_
    show Steps p.tables e below (s₁.setTop (mkF m 53 #[.val (.int p1), .val (.int p2), .val (.int (irm (p1 &&& (2147483647 : Int32)) (6 : Int32))), .unset, .unset, .unset, .unset] [(.int (irm (p1 &&& (2147483647 : Int32)) (6 : Int32)))])) _
    refine XS.iconst X0.here hx rfl (hb hby at_53) ?_
    show Steps p.tables e below (s₁.setTop (mkF m 54 #[.val (.int p1), .val (.int p2), .val (.int (irm (p1 &&& (2147483647 : Int32)) (6 : Int32))), .unset, .unset, .unset, .unset] [(.int (3 : Int32)), (.int (irm (p1 &&& (2147483647 : Int32)) (6 : Int32)))])) _
    refine XS.icmpNo X0.here hx rfl (hb hby at_54) rfl (teq k3).2 ?_
    show Steps p.tables e below (s₁.setTop (mkF m 57 #[.val (.int p1), .val (.int p2), .val (.int (irm (p1 &&& (2147483647 : Int32)) (6 : Int32))), .unset, .unset, .unset, .unset] [])) _
    refine st101 _ ?_
    show Steps p.tables e below (T101.setTop (mkF m 60 #[.val (.int p1), .val (.int p2), .val (.int (irm (p1 &&& (2147483647 : Int32)) (6 : Int32))), .unset, .unset, .unset, .unset] [(.ref w)])) _
    refine XS.astoreN X101.here hx rfl (hb hby at_60) rfl rfl (l' := #[.val (.int p1), .val (.int p2), .val (.int (irm (p1 &&& (2147483647 : Int32)) (6 : Int32))), .val (.ref w), .unset, .unset, .unset]) rfl ?_
    show Steps p.tables e below (T101.setTop (mkF m 61 #[.val (.int p1), .val (.int p2), .val (.int (irm (p1 &&& (2147483647 : Int32)) (6 : Int32))), .val (.ref w), .unset, .unset, .unset] [])) _
    refine XS.iconst X101.here hx rfl (hb hby at_61) ?_
    show Steps p.tables e below (T101.setTop (mkF m 62 #[.val (.int p1), .val (.int p2), .val (.int (irm (p1 &&& (2147483647 : Int32)) (6 : Int32))), .val (.ref w), .unset, .unset, .unset] [(.int (4 : Int32))])) _
    refine XS.istore X101.here hx rfl (hb hby at_62) rfl (l' := #[.val (.int p1), .val (.int p2), .val (.int (irm (p1 &&& (2147483647 : Int32)) (6 : Int32))), .val (.ref w), .val (.int (4 : Int32)), .unset, .unset]) rfl ?_
    show Steps p.tables e below (T101.setTop (mkF m 64 #[.val (.int p1), .val (.int p2), .val (.int (irm (p1 &&& (2147483647 : Int32)) (6 : Int32))), .val (.ref w), .val (.int (4 : Int32)), .unset, .unset] [])) _
    refine XS.goto X101.here hx rfl (pc0 := 64) (pc' := 90) rfl (hb hby at_64) (by decide) (by decide) ?_
    show Steps p.tables e below (T101.setTop (mkF m 90 #[.val (.int p1), .val (.int p2), .val (.int (irm (p1 &&& (2147483647 : Int32)) (6 : Int32))), .val (.ref w), .val (.int (4 : Int32)), .unset, .unset] [])) _
    refine XS.iloadN X101.here hx rfl (hb hby at_90) rfl ?_
    show Steps p.tables e below (T101.setTop (mkF m 91 #[.val (.int p1), .val (.int p2), .val (.int (irm (p1 &&& (2147483647 : Int32)) (6 : Int32))), .val (.ref w), .val (.int (4 : Int32)), .unset, .unset] [(.int p2)])) _
    refine XS.ifYes X101.here hx rfl (pc0 := 91) (pc' := 100) rfl (hb hby at_91) rfl ((if0 _ _).trans (flt s1).2.1) (by decide) (by decide) ?_
    show Steps p.tables e below (T101.setTop (mkF m 100 #[.val (.int p1), .val (.int p2), .val (.int (irm (p1 &&& (2147483647 : Int32)) (6 : Int32))), .val (.ref w), .val (.int (4 : Int32)), .unset, .unset] [])) _
    refine XS.iloadN X101.here hx rfl (hb hby at_100) rfl ?_
    show Steps p.tables e below (T101.setTop (mkF m 101 #[.val (.int p1), .val (.int p2), .val (.int (irm (p1 &&& (2147483647 : Int32)) (6 : Int32))), .val (.ref w), .val (.int (4 : Int32)), .unset, .unset] [(.int p2)])) _
    refine XS.ifNo X101.here hx rfl (hb hby at_101) rfl ((if0 _ _).trans (teq s2).2) ?_
    show Steps p.tables e below (T101.setTop (mkF m 104 #[.val (.int p1), .val (.int p2), .val (.int (irm (p1 &&& (2147483647 : Int32)) (6 : Int32))), .val (.ref w), .val (.int (4 : Int32)), .unset, .unset] [])) _
    refine XS.iconst X101.here hx rfl (hb hby at_104) ?_
    show Steps p.tables e below (T101.setTop (mkF m 105 #[.val (.int p1), .val (.int p2), .val (.int (irm (p1 &&& (2147483647 : Int32)) (6 : Int32))), .val (.ref w), .val (.int (4 : Int32)), .unset, .unset] [(.int (1 : Int32))])) _
    refine XS.istore X101.here hx rfl (hb hby at_105) rfl (l' := #[.val (.int p1), .val (.int p2), .val (.int (irm (p1 &&& (2147483647 : Int32)) (6 : Int32))), .val (.ref w), .val (.int (4 : Int32)), .val (.int (1 : Int32)), .unset]) rfl ?_
    show Steps p.tables e below (T101.setTop (mkF m 107 #[.val (.int p1), .val (.int p2), .val (.int (irm (p1 &&& (2147483647 : Int32)) (6 : Int32))), .val (.ref w), .val (.int (4 : Int32)), .val (.int (1 : Int32)), .unset] [])) _
    refine XS.goto X101.here hx rfl (pc0 := 107) (pc' := 113) rfl (hb hby at_107) (by decide) (by decide) ?_
    show Steps p.tables e below (T101.setTop (mkF m 113 #[.val (.int p1), .val (.int p2), .val (.int (irm (p1 &&& (2147483647 : Int32)) (6 : Int32))), .val (.ref w), .val (.int (4 : Int32)), .val (.int (1 : Int32)), .unset] [])) _
    refine XS.iload X101.here hx rfl (hb hby at_113) rfl ?_
    show Steps p.tables e below (T101.setTop (mkF m 115 #[.val (.int p1), .val (.int p2), .val (.int (irm (p1 &&& (2147483647 : Int32)) (6 : Int32))), .val (.ref w), .val (.int (4 : Int32)), .val (.int (1 : Int32)), .unset] [(.int (4 : Int32))])) _
    refine XS.iload X101.here hx rfl (hb hby at_115) rfl ?_
    show Steps p.tables e below (T101.setTop (mkF m 117 #[.val (.int p1), .val (.int p2), .val (.int (irm (p1 &&& (2147483647 : Int32)) (6 : Int32))), .val (.ref w), .val (.int (4 : Int32)), .val (.int (1 : Int32)), .unset] [(.int (1 : Int32)), (.int (4 : Int32))])) _
    refine XS.ishr X101.here hx rfl (hb hby at_117) rfl ?_
    show Steps p.tables e below (T101.setTop (mkF m 118 #[.val (.int p1), .val (.int p2), .val (.int (irm (p1 &&& (2147483647 : Int32)) (6 : Int32))), .val (.ref w), .val (.int (4 : Int32)), .val (.int (1 : Int32)), .unset] [(.int ((4 : Int32) >>> ((1 : Int32) &&& 31)))])) _
    refine XS.iconst X101.here hx rfl (hb hby at_118) ?_
    show Steps p.tables e below (T101.setTop (mkF m 119 #[.val (.int p1), .val (.int p2), .val (.int (irm (p1 &&& (2147483647 : Int32)) (6 : Int32))), .val (.ref w), .val (.int (4 : Int32)), .val (.int (1 : Int32)), .unset] [(.int (1 : Int32)), (.int ((4 : Int32) >>> ((1 : Int32) &&& 31)))])) _
    refine XS.iand X101.here hx rfl (hb hby at_119) rfl ?_
    show Steps p.tables e below (T101.setTop (mkF m 120 #[.val (.int p1), .val (.int p2), .val (.int (irm (p1 &&& (2147483647 : Int32)) (6 : Int32))), .val (.ref w), .val (.int (4 : Int32)), .val (.int (1 : Int32)), .unset] [(.int (((4 : Int32) >>> ((1 : Int32) &&& 31)) &&& (1 : Int32)))])) _
    refine XS.ifYes X101.here hx rfl (pc0 := 120) (pc' := 127) rfl (hb hby at_120) rfl ((if0 _ _).trans (teq (by decide : (((4 : Int32) >>> ((1 : Int32) &&& 31)) &&& (1 : Int32)) = (0 : Int32))).1) (by decide) (by decide) ?_
    show Steps p.tables e below (T101.setTop (mkF m 127 #[.val (.int p1), .val (.int p2), .val (.int (irm (p1 &&& (2147483647 : Int32)) (6 : Int32))), .val (.ref w), .val (.int (4 : Int32)), .val (.int (1 : Int32)), .unset] [])) _
    refine XS.iconst X101.here hx rfl (hb hby at_127) ?_
    show Steps p.tables e below (T101.setTop (mkF m 128 #[.val (.int p1), .val (.int p2), .val (.int (irm (p1 &&& (2147483647 : Int32)) (6 : Int32))), .val (.ref w), .val (.int (4 : Int32)), .val (.int (1 : Int32)), .unset] [(.int (0 : Int32))])) _
    refine XS.istore X101.here hx rfl (hb hby at_128) rfl (l' := #[.val (.int p1), .val (.int p2), .val (.int (irm (p1 &&& (2147483647 : Int32)) (6 : Int32))), .val (.ref w), .val (.int (4 : Int32)), .val (.int (1 : Int32)), .val (.int (0 : Int32))]) rfl ?_
    show Steps p.tables e below (T101.setTop (mkF m 130 #[.val (.int p1), .val (.int p2), .val (.int (irm (p1 &&& (2147483647 : Int32)) (6 : Int32))), .val (.ref w), .val (.int (4 : Int32)), .val (.int (1 : Int32)), .val (.int (0 : Int32))] [])) _
    refine XS.aloadN X101.here hx rfl (hb hby at_130) rfl rfl ?_
    show Steps p.tables e below (T101.setTop (mkF m 131 #[.val (.int p1), .val (.int p2), .val (.int (irm (p1 &&& (2147483647 : Int32)) (6 : Int32))), .val (.ref w), .val (.int (4 : Int32)), .val (.int (1 : Int32)), .val (.int (0 : Int32))] [(.ref w)])) _
    refine XS.iloadN X101.here hx rfl (hb hby at_131) rfl ?_
    show Steps p.tables e below (T101.setTop (mkF m 132 #[.val (.int p1), .val (.int p2), .val (.int (irm (p1 &&& (2147483647 : Int32)) (6 : Int32))), .val (.ref w), .val (.int (4 : Int32)), .val (.int (1 : Int32)), .val (.int (0 : Int32))] [(.int p2), (.ref w)])) _
    refine st102.trans ?_
    show Steps p.tables e below (T102.setTop (mkF m 135 #[.val (.int p1), .val (.int p2), .val (.int (irm (p1 &&& (2147483647 : Int32)) (6 : Int32))), .val (.ref w), .val (.int (4 : Int32)), .val (.int (1 : Int32)), .val (.int (0 : Int32))] [(.int (0 : Int32))])) _
    refine XS.iload X102.here hx rfl (hb hby at_135) rfl ?_
    show Steps p.tables e below (T102.setTop (mkF m 137 #[.val (.int p1), .val (.int p2), .val (.int (irm (p1 &&& (2147483647 : Int32)) (6 : Int32))), .val (.ref w), .val (.int (4 : Int32)), .val (.int (1 : Int32)), .val (.int (0 : Int32))] [(.int (0 : Int32)), (.int (0 : Int32))])) _
    refine XS.icmpNo X102.here hx rfl (hb hby at_137) rfl (teq (by decide : (0 : Int32) = (0 : Int32))).2 ?_
    show Steps p.tables e below (T102.setTop (mkF m 140 #[.val (.int p1), .val (.int p2), .val (.int (irm (p1 &&& (2147483647 : Int32)) (6 : Int32))), .val (.ref w), .val (.int (4 : Int32)), .val (.int (1 : Int32)), .val (.int (0 : Int32))] [])) _
    refine XS.iconst X102.here hx rfl (hb hby at_140) ?_
    show Steps p.tables e below (T102.setTop (mkF m 141 #[.val (.int p1), .val (.int p2), .val (.int (irm (p1 &&& (2147483647 : Int32)) (6 : Int32))), .val (.ref w), .val (.int (4 : Int32)), .val (.int (1 : Int32)), .val (.int (0 : Int32))] [(.int (1 : Int32))])) _
    refine XS.goto X102.here hx rfl (pc0 := 141) (pc' := 145) rfl (hb hby at_141) (by decide) (by decide) ?_
    show Steps p.tables e below (T102.setTop (mkF m 145 #[.val (.int p1), .val (.int p2), .val (.int (irm (p1 &&& (2147483647 : Int32)) (6 : Int32))), .val (.ref w), .val (.int (4 : Int32)), .val (.int (1 : Int32)), .val (.int (0 : Int32))] [(.int (1 : Int32))])) _
    exact retN X102 hx (t := .boolean) Bd.returns (by simp) (hb hby at_145) hr
  · show Q0 h0 n0 _ T102.heap _
    rw [e102]
    exact ⟨rfl, N102⟩
set_option maxRecDepth 65536 in
set_option maxHeartbeats 40000000 in
theorem rm0_3g (l : Launch) (Z : State) (a0 : Array Value) (hw : ∀ d ∈ tables_1, d.before a0 Z = true) (ws : List Jvm.Cond) (p1 p2 : Int32) (w : Addr) (h0 : Heap) (n0 : Nat) (O0 : Old Z n0 h0) (S : Sta Z Z.heap "com/example/plugroot/plugroot/sql/Comparison" "GREATER" "Lcom/example/plugroot/plugroot/sql/Comparison;" (.ref w)) (E : Exa Z Z.heap w "com/example/plugroot/plugroot/sql/Comparison") (F_o : Fld Z Z.heap w "java/lang/Enum" "ordinal" "I" (.int 3)) (k0 : ¬ ((irm (p1 &&& (2147483647 : Int32)) (6 : Int32)) = 0)) (k1 : ¬ ((irm (p1 &&& (2147483647 : Int32)) (6 : Int32)) = 1)) (k2 : ¬ ((irm (p1 &&& (2147483647 : Int32)) (6 : Int32)) = 2)) (k3 : (irm (p1 &&& (2147483647 : Int32)) (6 : Int32)) = 3) (s1 : ¬ (p2 < 0)) (s2 : ¬ (p2 = 0)) :
    MetFree l x (head1 (Jvm.Cond.code x code maxLocals ret :: ws) room_1) (fun a_ U => a_ = #[(.int p1), (.int p2)] ∧ Z.Warmed39 U.vm ∧ U.heap = h0) (fun _ _ _ _ _ => True) (fun _ U o U' => ∃ v L, o = .returned v ∧ Q0 h0 n0 v U'.heap L ∧ FrameEnd U o U' L room_1.cells room_1.slots) := by
  refine MetFree.of_bodySF (plainFor_of_name pn_2) hisR ?_
  intro p e s m args below meth c s₁ Bd hml0 hP hK
  obtain ⟨rfl, hZ, hh⟩ := hP
  have hx := Bd.exec
  have hby := Bd.bytes
  have hml : c.maxLocals = 7 := hml0
  have hown : s.vm.findClass "com/example/plugroot/plugroot/sql/ComparisonHoldsPinLaw" = some m.cls := findClass_of_methodNamed Bd.named
  have hnm := (name_of_methodNamed Bd.named Bd.method).1
  have X0 : Stand p l e room_1 s m #[(.int p1), (.int p2)] below meth c s₁ [] 0 0 := Stand.of_body Bd
  have e0 : s₁.heap = h0 := by rw [← hh, Bd.state]; rfl
  have N0 := Fr.nil n0
  have pre0 : ∀ tg, Steps p.tables e below (s₁.setTop (mkF m 0 #[.val (.int p1), .val (.int p2), .unset, .unset, .unset, .unset, .unset] [])) tg → Steps p.tables e below (s₁.setTop (entryFrame m #[(.int p1), (.int p2)] maxLocals)) tg := fun tg kq => castTop (ef_II_7m m p1 p2) kq
  obtain ⟨T101, X101, e101, st101⟩ := getS2 X0 hx hZ hown (host := "") (Or.inl (wi hw 26 rfl)) Via.refl e0 (S.ext O0.2) (g := (mkF m 57 #[.val (.int p1), .val (.int p2), .val (.int (irm (p1 &&& (2147483647 : Int32)) (6 : Int32))), .unset, .unset, .unset, .unset] [])) rfl (hb hby at_57)
  obtain ⟨cq102, kq102, q102a, q102b, q102c⟩ := isOf hZ e101 (E.ext O0.2)
  obtain ⟨_, _, ⟨T102, L102, k102, n102⟩, -, X102, ⟨Lc102, hQ102, l102, y102, z102⟩, st102⟩ := X101.virtualBack hx (y := (⟨"com/example/plugroot/plugroot/sql/Comparison", "holds", "(I)Z"⟩ : MethodName)) (z := (⟨"com/example/plugroot/plugroot/sql/Comparison", "holds", "(I)Z"⟩ : MethodName)) hown (mvT hZ (wi hw 4 rfl)) (mvT hZ (wi hw 5 rfl)) (notFace_of_selects (args := #[]) (mvT hZ (wi hw 7 rfl))) (mvT hZ (wi hw 7 rfl)) (mvT hZ (wi hw 6 rfl)) (by decide) (backOf (W := 0) (rm1_3f l Z a0 hw [] w p2 h0 n0 O0 F_o E (own_sg_gt s1 s2)) hZ (wi hw 8 rfl) (wi hw 2 rfl) (by decide) (by decide)) q102a q102c (g := (mkF m 132 #[.val (.int p1), .val (.int p2), .val (.int (irm (p1 &&& (2147483647 : Int32)) (6 : Int32))), .val (.ref w), .val (.int (4 : Int32)), .val (.int (2 : Int32)), .val (.int (1 : Int32))] [(.int p2), (.ref w)])) rfl (by rw [hml]; rfl) (Steps.refl _) (argsL := [(.int p2)]) (rest := []) (lenOf pd_1 rfl) rfl (by show 2 * 0 + _ ≤ _; exact Nat.le_of_eq rfl) (hb hby at_132) (fun _ _ => ⟨rfl, e101, (by decide : 0 + 0 ≤ _), (by decide : 0 + 0 ≤ _)⟩)
  dsimp only [Pt.U, Pt.locs, Pt.cells, Pt.slots] at X102 l102 y102 z102 st102 hQ102
  subst l102 y102 z102
  obtain ⟨rfl, N102q, hh102⟩ := hQ102
  have e102 : T102.heap = h0 := hh102
  have N102 := Fr.app N0 N102q
  obtain ⟨fs, hr, hrun, hended, hW, hsame⟩ := X102.leave (v := some (.int (1 : Int32))) (fun h => by rw [Bd.returns] at h; cases h)
  refine ⟨_, _, pre0 _ ?_, hrun, hended, _, _, rfl, ?_, ⟨_, rfl⟩, hW, hsame.mono (by decide) (by decide)⟩
  · show Steps p.tables e below (s₁.setTop (mkF m 0 #[.val (.int p1), .val (.int p2), .unset, .unset, .unset, .unset, .unset] [])) _
    refine XS.iloadN X0.here hx rfl (hb hby at_0) rfl ?_
    show Steps p.tables e below (s₁.setTop (mkF m 1 #[.val (.int p1), .val (.int p2), .unset, .unset, .unset, .unset, .unset] [(.int p1)])) _
    refine X0.ldcInt hx hown (mvT hZ (wi hw 0 rfl)) (g := (mkF m 1 #[.val (.int p1), .val (.int p2), .unset, .unset, .unset, .unset, .unset] [(.int p1)])) rfl (hb hby at_1) _ ?_
    show Steps p.tables e below (s₁.setTop (mkF m 3 #[.val (.int p1), .val (.int p2), .unset, .unset, .unset, .unset, .unset] [(.int (2147483647 : Int32)), (.int p1)])) _
    refine XS.iand X0.here hx rfl (hb hby at_3) rfl ?_
    show Steps p.tables e below (s₁.setTop (mkF m 4 #[.val (.int p1), .val (.int p2), .unset, .unset, .unset, .unset, .unset] [(.int (p1 &&& (2147483647 : Int32)))])) _
    refine XS.bipush X0.here hx rfl (hb hby at_4) ?_
    show Steps p.tables e below (s₁.setTop (mkF m 6 #[.val (.int p1), .val (.int p2), .unset, .unset, .unset, .unset, .unset] [(.int (6 : Int32)), (.int (p1 &&& (2147483647 : Int32)))])) _
    refine XS.irem X0.here hx rfl (hb hby at_6) rfl (by decide) ?_
    show Steps p.tables e below (s₁.setTop (mkF m 7 #[.val (.int p1), .val (.int p2), .unset, .unset, .unset, .unset, .unset] [(.int (irm (p1 &&& (2147483647 : Int32)) (6 : Int32)))])) _
    refine XS.istoreN X0.here hx rfl (hb hby at_7) rfl (l' := #[.val (.int p1), .val (.int p2), .val (.int (irm (p1 &&& (2147483647 : Int32)) (6 : Int32))), .unset, .unset, .unset, .unset]) rfl ?_
    show Steps p.tables e below (s₁.setTop (mkF m 8 #[.val (.int p1), .val (.int p2), .val (.int (irm (p1 &&& (2147483647 : Int32)) (6 : Int32))), .unset, .unset, .unset, .unset] [])) _
    refine XS.iloadN X0.here hx rfl (hb hby at_8) rfl ?_
    show Steps p.tables e below (s₁.setTop (mkF m 9 #[.val (.int p1), .val (.int p2), .val (.int (irm (p1 &&& (2147483647 : Int32)) (6 : Int32))), .unset, .unset, .unset, .unset] [(.int (irm (p1 &&& (2147483647 : Int32)) (6 : Int32)))])) _
    refine XS.ifYes X0.here hx rfl (pc0 := 9) (pc' := 22) rfl (hb hby at_9) rfl ((if0 _ _).trans (feq k0).2) (by decide) (by decide) ?_
    show Steps p.tables e below (s₁.setTop (mkF m 22 #[.val (.int p1), .val (.int p2), .val (.int (irm (p1 &&& (2147483647 : Int32)) (6 : Int32))), .unset, .unset, .unset, .unset] [])) _
    refine XS.iloadN X0.here hx rfl (hb hby at_22) rfl ?_
    show Steps p.tables e below (s₁.setTop (mkF m 23 #[.val (.int p1), .val (.int p2), .val (.int (irm (p1 &&& (2147483647 : Int32)) (6 : Int32))), .unset, .unset, .unset, .unset] [(.int (irm (p1 &&& (2147483647 : Int32)) (6 : Int32)))])) _
    refine XS.iconst X0.here hx rfl (hb hby at_23) ?_
    show Steps p.tables e below (s₁.setTop (mkF m 24 #[.val (.int p1), .val (.int p2), .val (.int (irm (p1 &&& (2147483647 : Int32)) (6 : Int32))), .unset, .unset, .unset, .unset] [(.int (1 : Int32)), (.int (irm (p1 &&& (2147483647 : Int32)) (6 : Int32)))])) _
    refine XS.icmpYes X0.here hx rfl (pc0 := 24) (pc' := 37) rfl (hb hby at_24) rfl (feq k1).2 (by decide) (by decide) ?_
    show Steps p.tables e below (s₁.setTop (mkF m 37 #[.val (.int p1), .val (.int p2), .val (.int (irm (p1 &&& (2147483647 : Int32)) (6 : Int32))), .unset, .unset, .unset, .unset] [])) _
    refine XS.iloadN X0.here hx rfl (hb hby at_37) rfl ?_
    show Steps p.tables e below (s₁.setTop (mkF m 38 #[.val (.int p1), .val (.int p2), .val (.int (irm (p1 &&& (2147483647 : Int32)) (6 : Int32))), .unset, .unset, .unset, .unset] [(.int (irm (p1 &&& (2147483647 : Int32)) (6 : Int32)))])) _
    refine XS.iconst X0.here hx rfl (hb hby at_38) ?_
    show Steps p.tables e below (s₁.setTop (mkF m 39 #[.val (.int p1), .val (.int p2), .val (.int (irm (p1 &&& (2147483647 : Int32)) (6 : Int32))), .unset, .unset, .unset, .unset] [(.int (2 : Int32)), (.int (irm (p1 &&& (2147483647 : Int32)) (6 : Int32)))])) _
    refine XS.icmpYes X0.here hx rfl (pc0 := 39) (pc' := 52) rfl (hb hby at_39) rfl (feq k2).2 (by decide) (by decide) ?_
    show Steps p.tables e below (s₁.setTop (mkF m 52 #[.val (.int p1), .val (.int p2), .val (.int (irm (p1 &&& (2147483647 : Int32)) (6 : Int32))), .unset, .unset, .unset, .unset] [])) _
    refine XS.iloadN X0.here hx rfl (hb hby at_52) rfl ?_
    show Steps p.tables e below (s₁.setTop (mkF m 53 #[.val (.int p1), .val (.int p2), .val (.int (irm (p1 &&& (2147483647 : Int32)) (6 : Int32))), .unset, .unset, .unset, .unset] [(.int (irm (p1 &&& (2147483647 : Int32)) (6 : Int32)))])) _
    refine XS.iconst X0.here hx rfl (hb hby at_53) ?_
    show Steps p.tables e below (s₁.setTop (mkF m 54 #[.val (.int p1), .val (.int p2), .val (.int (irm (p1 &&& (2147483647 : Int32)) (6 : Int32))), .unset, .unset, .unset, .unset] [(.int (3 : Int32)), (.int (irm (p1 &&& (2147483647 : Int32)) (6 : Int32)))])) _
    refine XS.icmpNo X0.here hx rfl (hb hby at_54) rfl (teq k3).2 ?_
    show Steps p.tables e below (s₁.setTop (mkF m 57 #[.val (.int p1), .val (.int p2), .val (.int (irm (p1 &&& (2147483647 : Int32)) (6 : Int32))), .unset, .unset, .unset, .unset] [])) _
    refine st101 _ ?_
    show Steps p.tables e below (T101.setTop (mkF m 60 #[.val (.int p1), .val (.int p2), .val (.int (irm (p1 &&& (2147483647 : Int32)) (6 : Int32))), .unset, .unset, .unset, .unset] [(.ref w)])) _
    refine XS.astoreN X101.here hx rfl (hb hby at_60) rfl rfl (l' := #[.val (.int p1), .val (.int p2), .val (.int (irm (p1 &&& (2147483647 : Int32)) (6 : Int32))), .val (.ref w), .unset, .unset, .unset]) rfl ?_
    show Steps p.tables e below (T101.setTop (mkF m 61 #[.val (.int p1), .val (.int p2), .val (.int (irm (p1 &&& (2147483647 : Int32)) (6 : Int32))), .val (.ref w), .unset, .unset, .unset] [])) _
    refine XS.iconst X101.here hx rfl (hb hby at_61) ?_
    show Steps p.tables e below (T101.setTop (mkF m 62 #[.val (.int p1), .val (.int p2), .val (.int (irm (p1 &&& (2147483647 : Int32)) (6 : Int32))), .val (.ref w), .unset, .unset, .unset] [(.int (4 : Int32))])) _
    refine XS.istore X101.here hx rfl (hb hby at_62) rfl (l' := #[.val (.int p1), .val (.int p2), .val (.int (irm (p1 &&& (2147483647 : Int32)) (6 : Int32))), .val (.ref w), .val (.int (4 : Int32)), .unset, .unset]) rfl ?_
    show Steps p.tables e below (T101.setTop (mkF m 64 #[.val (.int p1), .val (.int p2), .val (.int (irm (p1 &&& (2147483647 : Int32)) (6 : Int32))), .val (.ref w), .val (.int (4 : Int32)), .unset, .unset] [])) _
    refine XS.goto X101.here hx rfl (pc0 := 64) (pc' := 90) rfl (hb hby at_64) (by decide) (by decide) ?_
    show Steps p.tables e below (T101.setTop (mkF m 90 #[.val (.int p1), .val (.int p2), .val (.int (irm (p1 &&& (2147483647 : Int32)) (6 : Int32))), .val (.ref w), .val (.int (4 : Int32)), .unset, .unset] [])) _
    refine XS.iloadN X101.here hx rfl (hb hby at_90) rfl ?_
    show Steps p.tables e below (T101.setTop (mkF m 91 #[.val (.int p1), .val (.int p2), .val (.int (irm (p1 &&& (2147483647 : Int32)) (6 : Int32))), .val (.ref w), .val (.int (4 : Int32)), .unset, .unset] [(.int p2)])) _
    refine XS.ifYes X101.here hx rfl (pc0 := 91) (pc' := 100) rfl (hb hby at_91) rfl ((if0 _ _).trans (flt s1).2.1) (by decide) (by decide) ?_
    show Steps p.tables e below (T101.setTop (mkF m 100 #[.val (.int p1), .val (.int p2), .val (.int (irm (p1 &&& (2147483647 : Int32)) (6 : Int32))), .val (.ref w), .val (.int (4 : Int32)), .unset, .unset] [])) _
    refine XS.iloadN X101.here hx rfl (hb hby at_100) rfl ?_
    show Steps p.tables e below (T101.setTop (mkF m 101 #[.val (.int p1), .val (.int p2), .val (.int (irm (p1 &&& (2147483647 : Int32)) (6 : Int32))), .val (.ref w), .val (.int (4 : Int32)), .unset, .unset] [(.int p2)])) _
    refine XS.ifYes X101.here hx rfl (pc0 := 101) (pc' := 110) rfl (hb hby at_101) rfl ((if0 _ _).trans (feq s2).2) (by decide) (by decide) ?_
    show Steps p.tables e below (T101.setTop (mkF m 110 #[.val (.int p1), .val (.int p2), .val (.int (irm (p1 &&& (2147483647 : Int32)) (6 : Int32))), .val (.ref w), .val (.int (4 : Int32)), .unset, .unset] [])) _
    refine XS.iconst X101.here hx rfl (hb hby at_110) ?_
    show Steps p.tables e below (T101.setTop (mkF m 111 #[.val (.int p1), .val (.int p2), .val (.int (irm (p1 &&& (2147483647 : Int32)) (6 : Int32))), .val (.ref w), .val (.int (4 : Int32)), .unset, .unset] [(.int (2 : Int32))])) _
    refine XS.istore X101.here hx rfl (hb hby at_111) rfl (l' := #[.val (.int p1), .val (.int p2), .val (.int (irm (p1 &&& (2147483647 : Int32)) (6 : Int32))), .val (.ref w), .val (.int (4 : Int32)), .val (.int (2 : Int32)), .unset]) rfl ?_
    show Steps p.tables e below (T101.setTop (mkF m 113 #[.val (.int p1), .val (.int p2), .val (.int (irm (p1 &&& (2147483647 : Int32)) (6 : Int32))), .val (.ref w), .val (.int (4 : Int32)), .val (.int (2 : Int32)), .unset] [])) _
    refine XS.iload X101.here hx rfl (hb hby at_113) rfl ?_
    show Steps p.tables e below (T101.setTop (mkF m 115 #[.val (.int p1), .val (.int p2), .val (.int (irm (p1 &&& (2147483647 : Int32)) (6 : Int32))), .val (.ref w), .val (.int (4 : Int32)), .val (.int (2 : Int32)), .unset] [(.int (4 : Int32))])) _
    refine XS.iload X101.here hx rfl (hb hby at_115) rfl ?_
    show Steps p.tables e below (T101.setTop (mkF m 117 #[.val (.int p1), .val (.int p2), .val (.int (irm (p1 &&& (2147483647 : Int32)) (6 : Int32))), .val (.ref w), .val (.int (4 : Int32)), .val (.int (2 : Int32)), .unset] [(.int (2 : Int32)), (.int (4 : Int32))])) _
    refine XS.ishr X101.here hx rfl (hb hby at_117) rfl ?_
    show Steps p.tables e below (T101.setTop (mkF m 118 #[.val (.int p1), .val (.int p2), .val (.int (irm (p1 &&& (2147483647 : Int32)) (6 : Int32))), .val (.ref w), .val (.int (4 : Int32)), .val (.int (2 : Int32)), .unset] [(.int ((4 : Int32) >>> ((2 : Int32) &&& 31)))])) _
    refine XS.iconst X101.here hx rfl (hb hby at_118) ?_
    show Steps p.tables e below (T101.setTop (mkF m 119 #[.val (.int p1), .val (.int p2), .val (.int (irm (p1 &&& (2147483647 : Int32)) (6 : Int32))), .val (.ref w), .val (.int (4 : Int32)), .val (.int (2 : Int32)), .unset] [(.int (1 : Int32)), (.int ((4 : Int32) >>> ((2 : Int32) &&& 31)))])) _
    refine XS.iand X101.here hx rfl (hb hby at_119) rfl ?_
    show Steps p.tables e below (T101.setTop (mkF m 120 #[.val (.int p1), .val (.int p2), .val (.int (irm (p1 &&& (2147483647 : Int32)) (6 : Int32))), .val (.ref w), .val (.int (4 : Int32)), .val (.int (2 : Int32)), .unset] [(.int (((4 : Int32) >>> ((2 : Int32) &&& 31)) &&& (1 : Int32)))])) _
    refine XS.ifNo X101.here hx rfl (hb hby at_120) rfl ((if0 _ _).trans (feq (by decide : ¬ ((((4 : Int32) >>> ((2 : Int32) &&& 31)) &&& (1 : Int32)) = (0 : Int32)))).1) ?_
    show Steps p.tables e below (T101.setTop (mkF m 123 #[.val (.int p1), .val (.int p2), .val (.int (irm (p1 &&& (2147483647 : Int32)) (6 : Int32))), .val (.ref w), .val (.int (4 : Int32)), .val (.int (2 : Int32)), .unset] [])) _
    refine XS.iconst X101.here hx rfl (hb hby at_123) ?_
    show Steps p.tables e below (T101.setTop (mkF m 124 #[.val (.int p1), .val (.int p2), .val (.int (irm (p1 &&& (2147483647 : Int32)) (6 : Int32))), .val (.ref w), .val (.int (4 : Int32)), .val (.int (2 : Int32)), .unset] [(.int (1 : Int32))])) _
    refine XS.goto X101.here hx rfl (pc0 := 124) (pc' := 128) rfl (hb hby at_124) (by decide) (by decide) ?_
    show Steps p.tables e below (T101.setTop (mkF m 128 #[.val (.int p1), .val (.int p2), .val (.int (irm (p1 &&& (2147483647 : Int32)) (6 : Int32))), .val (.ref w), .val (.int (4 : Int32)), .val (.int (2 : Int32)), .unset] [(.int (1 : Int32))])) _
    refine XS.istore X101.here hx rfl (hb hby at_128) rfl (l' := #[.val (.int p1), .val (.int p2), .val (.int (irm (p1 &&& (2147483647 : Int32)) (6 : Int32))), .val (.ref w), .val (.int (4 : Int32)), .val (.int (2 : Int32)), .val (.int (1 : Int32))]) rfl ?_
    show Steps p.tables e below (T101.setTop (mkF m 130 #[.val (.int p1), .val (.int p2), .val (.int (irm (p1 &&& (2147483647 : Int32)) (6 : Int32))), .val (.ref w), .val (.int (4 : Int32)), .val (.int (2 : Int32)), .val (.int (1 : Int32))] [])) _
    refine XS.aloadN X101.here hx rfl (hb hby at_130) rfl rfl ?_
    show Steps p.tables e below (T101.setTop (mkF m 131 #[.val (.int p1), .val (.int p2), .val (.int (irm (p1 &&& (2147483647 : Int32)) (6 : Int32))), .val (.ref w), .val (.int (4 : Int32)), .val (.int (2 : Int32)), .val (.int (1 : Int32))] [(.ref w)])) _
    refine XS.iloadN X101.here hx rfl (hb hby at_131) rfl ?_
    show Steps p.tables e below (T101.setTop (mkF m 132 #[.val (.int p1), .val (.int p2), .val (.int (irm (p1 &&& (2147483647 : Int32)) (6 : Int32))), .val (.ref w), .val (.int (4 : Int32)), .val (.int (2 : Int32)), .val (.int (1 : Int32))] [(.int p2), (.ref w)])) _
    refine st102.trans ?_
    show Steps p.tables e below (T102.setTop (mkF m 135 #[.val (.int p1), .val (.int p2), .val (.int (irm (p1 &&& (2147483647 : Int32)) (6 : Int32))), .val (.ref w), .val (.int (4 : Int32)), .val (.int (2 : Int32)), .val (.int (1 : Int32))] [(.int (1 : Int32))])) _
    refine XS.iload X102.here hx rfl (hb hby at_135) rfl ?_
    show Steps p.tables e below (T102.setTop (mkF m 137 #[.val (.int p1), .val (.int p2), .val (.int (irm (p1 &&& (2147483647 : Int32)) (6 : Int32))), .val (.ref w), .val (.int (4 : Int32)), .val (.int (2 : Int32)), .val (.int (1 : Int32))] [(.int (1 : Int32)), (.int (1 : Int32))])) _
    refine XS.icmpNo X102.here hx rfl (hb hby at_137) rfl (teq (by decide : (1 : Int32) = (1 : Int32))).2 ?_
    show Steps p.tables e below (T102.setTop (mkF m 140 #[.val (.int p1), .val (.int p2), .val (.int (irm (p1 &&& (2147483647 : Int32)) (6 : Int32))), .val (.ref w), .val (.int (4 : Int32)), .val (.int (2 : Int32)), .val (.int (1 : Int32))] [])) _
    refine XS.iconst X102.here hx rfl (hb hby at_140) ?_
    show Steps p.tables e below (T102.setTop (mkF m 141 #[.val (.int p1), .val (.int p2), .val (.int (irm (p1 &&& (2147483647 : Int32)) (6 : Int32))), .val (.ref w), .val (.int (4 : Int32)), .val (.int (2 : Int32)), .val (.int (1 : Int32))] [(.int (1 : Int32))])) _
    refine XS.goto X102.here hx rfl (pc0 := 141) (pc' := 145) rfl (hb hby at_141) (by decide) (by decide) ?_
    show Steps p.tables e below (T102.setTop (mkF m 145 #[.val (.int p1), .val (.int p2), .val (.int (irm (p1 &&& (2147483647 : Int32)) (6 : Int32))), .val (.ref w), .val (.int (4 : Int32)), .val (.int (2 : Int32)), .val (.int (1 : Int32))] [(.int (1 : Int32))])) _
    exact retN X102 hx (t := .boolean) Bd.returns (by simp) (hb hby at_145) hr
  · show Q0 h0 n0 _ T102.heap _
    rw [e102]
    exact ⟨rfl, N102⟩
set_option maxRecDepth 65536 in
set_option maxHeartbeats 40000000 in
theorem rm0_4l (l : Launch) (Z : State) (a0 : Array Value) (hw : ∀ d ∈ tables_1, d.before a0 Z = true) (ws : List Jvm.Cond) (p1 p2 : Int32) (w : Addr) (h0 : Heap) (n0 : Nat) (O0 : Old Z n0 h0) (S : Sta Z Z.heap "com/example/plugroot/plugroot/sql/Comparison" "LESS_OR_EQUAL" "Lcom/example/plugroot/plugroot/sql/Comparison;" (.ref w)) (E : Exa Z Z.heap w "com/example/plugroot/plugroot/sql/Comparison") (F_o : Fld Z Z.heap w "java/lang/Enum" "ordinal" "I" (.int 4)) (k0 : ¬ ((irm (p1 &&& (2147483647 : Int32)) (6 : Int32)) = 0)) (k1 : ¬ ((irm (p1 &&& (2147483647 : Int32)) (6 : Int32)) = 1)) (k2 : ¬ ((irm (p1 &&& (2147483647 : Int32)) (6 : Int32)) = 2)) (k3 : ¬ ((irm (p1 &&& (2147483647 : Int32)) (6 : Int32)) = 3)) (k4 : (irm (p1 &&& (2147483647 : Int32)) (6 : Int32)) = 4) (s1 : p2 < 0) :
    MetFree l x (head1 (Jvm.Cond.code x code maxLocals ret :: ws) room_1) (fun a_ U => a_ = #[(.int p1), (.int p2)] ∧ Z.Warmed39 U.vm ∧ U.heap = h0) (fun _ _ _ _ _ => True) (fun _ U o U' => ∃ v L, o = .returned v ∧ Q0 h0 n0 v U'.heap L ∧ FrameEnd U o U' L room_1.cells room_1.slots) := by
  refine MetFree.of_bodySF (plainFor_of_name pn_2) hisR ?_
  intro p e s m args below meth c s₁ Bd hml0 hP hK
  obtain ⟨rfl, hZ, hh⟩ := hP
  have hx := Bd.exec
  have hby := Bd.bytes
  have hml : c.maxLocals = 7 := hml0
  have hown : s.vm.findClass "com/example/plugroot/plugroot/sql/ComparisonHoldsPinLaw" = some m.cls := findClass_of_methodNamed Bd.named
  have hnm := (name_of_methodNamed Bd.named Bd.method).1
  have X0 : Stand p l e room_1 s m #[(.int p1), (.int p2)] below meth c s₁ [] 0 0 := Stand.of_body Bd
  have e0 : s₁.heap = h0 := by rw [← hh, Bd.state]; rfl
  have N0 := Fr.nil n0
  have pre0 : ∀ tg, Steps p.tables e below (s₁.setTop (mkF m 0 #[.val (.int p1), .val (.int p2), .unset, .unset, .unset, .unset, .unset] [])) tg → Steps p.tables e below (s₁.setTop (entryFrame m #[(.int p1), (.int p2)] maxLocals)) tg := fun tg kq => castTop (ef_II_7m m p1 p2) kq
  obtain ⟨T101, X101, e101, st101⟩ := getS2 X0 hx hZ hown (host := "") (Or.inl (wi hw 20 rfl)) Via.refl e0 (S.ext O0.2) (g := (mkF m 72 #[.val (.int p1), .val (.int p2), .val (.int (irm (p1 &&& (2147483647 : Int32)) (6 : Int32))), .unset, .unset, .unset, .unset] [])) rfl (hb hby at_72)
  obtain ⟨cq102, kq102, q102a, q102b, q102c⟩ := isOf hZ e101 (E.ext O0.2)
  obtain ⟨_, _, ⟨T102, L102, k102, n102⟩, -, X102, ⟨Lc102, hQ102, l102, y102, z102⟩, st102⟩ := X101.virtualBack hx (y := (⟨"com/example/plugroot/plugroot/sql/Comparison", "holds", "(I)Z"⟩ : MethodName)) (z := (⟨"com/example/plugroot/plugroot/sql/Comparison", "holds", "(I)Z"⟩ : MethodName)) hown (mvT hZ (wi hw 4 rfl)) (mvT hZ (wi hw 5 rfl)) (notFace_of_selects (args := #[]) (mvT hZ (wi hw 7 rfl))) (mvT hZ (wi hw 7 rfl)) (mvT hZ (wi hw 6 rfl)) (by decide) (backOf (W := 0) (rm1_4f l Z a0 hw [] w p2 h0 n0 O0 F_o E (own_sg_lt s1).2) hZ (wi hw 8 rfl) (wi hw 2 rfl) (by decide) (by decide)) q102a q102c (g := (mkF m 132 #[.val (.int p1), .val (.int p2), .val (.int (irm (p1 &&& (2147483647 : Int32)) (6 : Int32))), .val (.ref w), .val (.int (3 : Int32)), .val (.int (0 : Int32)), .val (.int (1 : Int32))] [(.int p2), (.ref w)])) rfl (by rw [hml]; rfl) (Steps.refl _) (argsL := [(.int p2)]) (rest := []) (lenOf pd_1 rfl) rfl (by show 2 * 0 + _ ≤ _; exact Nat.le_of_eq rfl) (hb hby at_132) (fun _ _ => ⟨rfl, e101, (by decide : 0 + 0 ≤ _), (by decide : 0 + 0 ≤ _)⟩)
  dsimp only [Pt.U, Pt.locs, Pt.cells, Pt.slots] at X102 l102 y102 z102 st102 hQ102
  subst l102 y102 z102
  obtain ⟨rfl, N102q, hh102⟩ := hQ102
  have e102 : T102.heap = h0 := hh102
  have N102 := Fr.app N0 N102q
  obtain ⟨fs, hr, hrun, hended, hW, hsame⟩ := X102.leave (v := some (.int (1 : Int32))) (fun h => by rw [Bd.returns] at h; cases h)
  refine ⟨_, _, pre0 _ ?_, hrun, hended, _, _, rfl, ?_, ⟨_, rfl⟩, hW, hsame.mono (by decide) (by decide)⟩
  · show Steps p.tables e below (s₁.setTop (mkF m 0 #[.val (.int p1), .val (.int p2), .unset, .unset, .unset, .unset, .unset] [])) _
    refine XS.iloadN X0.here hx rfl (hb hby at_0) rfl ?_
    show Steps p.tables e below (s₁.setTop (mkF m 1 #[.val (.int p1), .val (.int p2), .unset, .unset, .unset, .unset, .unset] [(.int p1)])) _
    refine X0.ldcInt hx hown (mvT hZ (wi hw 0 rfl)) (g := (mkF m 1 #[.val (.int p1), .val (.int p2), .unset, .unset, .unset, .unset, .unset] [(.int p1)])) rfl (hb hby at_1) _ ?_
    show Steps p.tables e below (s₁.setTop (mkF m 3 #[.val (.int p1), .val (.int p2), .unset, .unset, .unset, .unset, .unset] [(.int (2147483647 : Int32)), (.int p1)])) _
    refine XS.iand X0.here hx rfl (hb hby at_3) rfl ?_
    show Steps p.tables e below (s₁.setTop (mkF m 4 #[.val (.int p1), .val (.int p2), .unset, .unset, .unset, .unset, .unset] [(.int (p1 &&& (2147483647 : Int32)))])) _
    refine XS.bipush X0.here hx rfl (hb hby at_4) ?_
    show Steps p.tables e below (s₁.setTop (mkF m 6 #[.val (.int p1), .val (.int p2), .unset, .unset, .unset, .unset, .unset] [(.int (6 : Int32)), (.int (p1 &&& (2147483647 : Int32)))])) _
    refine XS.irem X0.here hx rfl (hb hby at_6) rfl (by decide) ?_
    show Steps p.tables e below (s₁.setTop (mkF m 7 #[.val (.int p1), .val (.int p2), .unset, .unset, .unset, .unset, .unset] [(.int (irm (p1 &&& (2147483647 : Int32)) (6 : Int32)))])) _
    refine XS.istoreN X0.here hx rfl (hb hby at_7) rfl (l' := #[.val (.int p1), .val (.int p2), .val (.int (irm (p1 &&& (2147483647 : Int32)) (6 : Int32))), .unset, .unset, .unset, .unset]) rfl ?_
    show Steps p.tables e below (s₁.setTop (mkF m 8 #[.val (.int p1), .val (.int p2), .val (.int (irm (p1 &&& (2147483647 : Int32)) (6 : Int32))), .unset, .unset, .unset, .unset] [])) _
    refine XS.iloadN X0.here hx rfl (hb hby at_8) rfl ?_
    show Steps p.tables e below (s₁.setTop (mkF m 9 #[.val (.int p1), .val (.int p2), .val (.int (irm (p1 &&& (2147483647 : Int32)) (6 : Int32))), .unset, .unset, .unset, .unset] [(.int (irm (p1 &&& (2147483647 : Int32)) (6 : Int32)))])) _
    refine XS.ifYes X0.here hx rfl (pc0 := 9) (pc' := 22) rfl (hb hby at_9) rfl ((if0 _ _).trans (feq k0).2) (by decide) (by decide) ?_
    show Steps p.tables e below (s₁.setTop (mkF m 22 #[.val (.int p1), .val (.int p2), .val (.int (irm (p1 &&& (2147483647 : Int32)) (6 : Int32))), .unset, .unset, .unset, .unset] [])) _
    refine XS.iloadN X0.here hx rfl (hb hby at_22) rfl ?_
    show Steps p.tables e below (s₁.setTop (mkF m 23 #[.val (.int p1), .val (.int p2), .val (.int (irm (p1 &&& (2147483647 : Int32)) (6 : Int32))), .unset, .unset, .unset, .unset] [(.int (irm (p1 &&& (2147483647 : Int32)) (6 : Int32)))])) _
    refine XS.iconst X0.here hx rfl (hb hby at_23) ?_
    show Steps p.tables e below (s₁.setTop (mkF m 24 #[.val (.int p1), .val (.int p2), .val (.int (irm (p1 &&& (2147483647 : Int32)) (6 : Int32))), .unset, .unset, .unset, .unset] [(.int (1 : Int32)), (.int (irm (p1 &&& (2147483647 : Int32)) (6 : Int32)))])) _
    refine XS.icmpYes X0.here hx rfl (pc0 := 24) (pc' := 37) rfl (hb hby at_24) rfl (feq k1).2 (by decide) (by decide) ?_
    show Steps p.tables e below (s₁.setTop (mkF m 37 #[.val (.int p1), .val (.int p2), .val (.int (irm (p1 &&& (2147483647 : Int32)) (6 : Int32))), .unset, .unset, .unset, .unset] [])) _
    refine XS.iloadN X0.here hx rfl (hb hby at_37) rfl ?_
    show Steps p.tables e below (s₁.setTop (mkF m 38 #[.val (.int p1), .val (.int p2), .val (.int (irm (p1 &&& (2147483647 : Int32)) (6 : Int32))), .unset, .unset, .unset, .unset] [(.int (irm (p1 &&& (2147483647 : Int32)) (6 : Int32)))])) _
    refine XS.iconst X0.here hx rfl (hb hby at_38) ?_
    show Steps p.tables e below (s₁.setTop (mkF m 39 #[.val (.int p1), .val (.int p2), .val (.int (irm (p1 &&& (2147483647 : Int32)) (6 : Int32))), .unset, .unset, .unset, .unset] [(.int (2 : Int32)), (.int (irm (p1 &&& (2147483647 : Int32)) (6 : Int32)))])) _
    refine XS.icmpYes X0.here hx rfl (pc0 := 39) (pc' := 52) rfl (hb hby at_39) rfl (feq k2).2 (by decide) (by decide) ?_
    show Steps p.tables e below (s₁.setTop (mkF m 52 #[.val (.int p1), .val (.int p2), .val (.int (irm (p1 &&& (2147483647 : Int32)) (6 : Int32))), .unset, .unset, .unset, .unset] [])) _
    refine XS.iloadN X0.here hx rfl (hb hby at_52) rfl ?_
    show Steps p.tables e below (s₁.setTop (mkF m 53 #[.val (.int p1), .val (.int p2), .val (.int (irm (p1 &&& (2147483647 : Int32)) (6 : Int32))), .unset, .unset, .unset, .unset] [(.int (irm (p1 &&& (2147483647 : Int32)) (6 : Int32)))])) _
    refine XS.iconst X0.here hx rfl (hb hby at_53) ?_
    show Steps p.tables e below (s₁.setTop (mkF m 54 #[.val (.int p1), .val (.int p2), .val (.int (irm (p1 &&& (2147483647 : Int32)) (6 : Int32))), .unset, .unset, .unset, .unset] [(.int (3 : Int32)), (.int (irm (p1 &&& (2147483647 : Int32)) (6 : Int32)))])) _
    refine XS.icmpYes X0.here hx rfl (pc0 := 54) (pc' := 67) rfl (hb hby at_54) rfl (feq k3).2 (by decide) (by decide) ?_
    show Steps p.tables e below (s₁.setTop (mkF m 67 #[.val (.int p1), .val (.int p2), .val (.int (irm (p1 &&& (2147483647 : Int32)) (6 : Int32))), .unset, .unset, .unset, .unset] [])) _
    refine XS.iloadN X0.here hx rfl (hb hby at_67) rfl ?_
    show Steps p.tables e below (s₁.setTop (mkF m 68 #[.val (.int p1), .val (.int p2), .val (.int (irm (p1 &&& (2147483647 : Int32)) (6 : Int32))), .unset, .unset, .unset, .unset] [(.int (irm (p1 &&& (2147483647 : Int32)) (6 : Int32)))])) _
    refine XS.iconst X0.here hx rfl (hb hby at_68) ?_
    show Steps p.tables e below (s₁.setTop (mkF m 69 #[.val (.int p1), .val (.int p2), .val (.int (irm (p1 &&& (2147483647 : Int32)) (6 : Int32))), .unset, .unset, .unset, .unset] [(.int (4 : Int32)), (.int (irm (p1 &&& (2147483647 : Int32)) (6 : Int32)))])) _
    refine XS.icmpNo X0.here hx rfl (hb hby at_69) rfl (teq k4).2 ?_
    show Steps p.tables e below (s₁.setTop (mkF m 72 #[.val (.int p1), .val (.int p2), .val (.int (irm (p1 &&& (2147483647 : Int32)) (6 : Int32))), .unset, .unset, .unset, .unset] [])) _
    refine st101 _ ?_
    show Steps p.tables e below (T101.setTop (mkF m 75 #[.val (.int p1), .val (.int p2), .val (.int (irm (p1 &&& (2147483647 : Int32)) (6 : Int32))), .unset, .unset, .unset, .unset] [(.ref w)])) _
    refine XS.astoreN X101.here hx rfl (hb hby at_75) rfl rfl (l' := #[.val (.int p1), .val (.int p2), .val (.int (irm (p1 &&& (2147483647 : Int32)) (6 : Int32))), .val (.ref w), .unset, .unset, .unset]) rfl ?_
    show Steps p.tables e below (T101.setTop (mkF m 76 #[.val (.int p1), .val (.int p2), .val (.int (irm (p1 &&& (2147483647 : Int32)) (6 : Int32))), .val (.ref w), .unset, .unset, .unset] [])) _
    refine XS.iconst X101.here hx rfl (hb hby at_76) ?_
    show Steps p.tables e below (T101.setTop (mkF m 77 #[.val (.int p1), .val (.int p2), .val (.int (irm (p1 &&& (2147483647 : Int32)) (6 : Int32))), .val (.ref w), .unset, .unset, .unset] [(.int (3 : Int32))])) _
    refine XS.istore X101.here hx rfl (hb hby at_77) rfl (l' := #[.val (.int p1), .val (.int p2), .val (.int (irm (p1 &&& (2147483647 : Int32)) (6 : Int32))), .val (.ref w), .val (.int (3 : Int32)), .unset, .unset]) rfl ?_
    show Steps p.tables e below (T101.setTop (mkF m 79 #[.val (.int p1), .val (.int p2), .val (.int (irm (p1 &&& (2147483647 : Int32)) (6 : Int32))), .val (.ref w), .val (.int (3 : Int32)), .unset, .unset] [])) _
    refine XS.goto X101.here hx rfl (pc0 := 79) (pc' := 90) rfl (hb hby at_79) (by decide) (by decide) ?_
    show Steps p.tables e below (T101.setTop (mkF m 90 #[.val (.int p1), .val (.int p2), .val (.int (irm (p1 &&& (2147483647 : Int32)) (6 : Int32))), .val (.ref w), .val (.int (3 : Int32)), .unset, .unset] [])) _
    refine XS.iloadN X101.here hx rfl (hb hby at_90) rfl ?_
    show Steps p.tables e below (T101.setTop (mkF m 91 #[.val (.int p1), .val (.int p2), .val (.int (irm (p1 &&& (2147483647 : Int32)) (6 : Int32))), .val (.ref w), .val (.int (3 : Int32)), .unset, .unset] [(.int p2)])) _
    refine XS.ifNo X101.here hx rfl (hb hby at_91) rfl ((if0 _ _).trans (tlt s1).2.1) ?_
    show Steps p.tables e below (T101.setTop (mkF m 94 #[.val (.int p1), .val (.int p2), .val (.int (irm (p1 &&& (2147483647 : Int32)) (6 : Int32))), .val (.ref w), .val (.int (3 : Int32)), .unset, .unset] [])) _
    refine XS.iconst X101.here hx rfl (hb hby at_94) ?_
    show Steps p.tables e below (T101.setTop (mkF m 95 #[.val (.int p1), .val (.int p2), .val (.int (irm (p1 &&& (2147483647 : Int32)) (6 : Int32))), .val (.ref w), .val (.int (3 : Int32)), .unset, .unset] [(.int (0 : Int32))])) _
    refine XS.istore X101.here hx rfl (hb hby at_95) rfl (l' := #[.val (.int p1), .val (.int p2), .val (.int (irm (p1 &&& (2147483647 : Int32)) (6 : Int32))), .val (.ref w), .val (.int (3 : Int32)), .val (.int (0 : Int32)), .unset]) rfl ?_
    show Steps p.tables e below (T101.setTop (mkF m 97 #[.val (.int p1), .val (.int p2), .val (.int (irm (p1 &&& (2147483647 : Int32)) (6 : Int32))), .val (.ref w), .val (.int (3 : Int32)), .val (.int (0 : Int32)), .unset] [])) _
    refine XS.goto X101.here hx rfl (pc0 := 97) (pc' := 113) rfl (hb hby at_97) (by decide) (by decide) ?_
    show Steps p.tables e below (T101.setTop (mkF m 113 #[.val (.int p1), .val (.int p2), .val (.int (irm (p1 &&& (2147483647 : Int32)) (6 : Int32))), .val (.ref w), .val (.int (3 : Int32)), .val (.int (0 : Int32)), .unset] [])) _
    refine XS.iload X101.here hx rfl (hb hby at_113) rfl ?_
    show Steps p.tables e below (T101.setTop (mkF m 115 #[.val (.int p1), .val (.int p2), .val (.int (irm (p1 &&& (2147483647 : Int32)) (6 : Int32))), .val (.ref w), .val (.int (3 : Int32)), .val (.int (0 : Int32)), .unset] [(.int (3 : Int32))])) _
    refine XS.iload X101.here hx rfl (hb hby at_115) rfl ?_
    show Steps p.tables e below (T101.setTop (mkF m 117 #[.val (.int p1), .val (.int p2), .val (.int (irm (p1 &&& (2147483647 : Int32)) (6 : Int32))), .val (.ref w), .val (.int (3 : Int32)), .val (.int (0 : Int32)), .unset] [(.int (0 : Int32)), (.int (3 : Int32))])) _
    refine XS.ishr X101.here hx rfl (hb hby at_117) rfl ?_
    show Steps p.tables e below (T101.setTop (mkF m 118 #[.val (.int p1), .val (.int p2), .val (.int (irm (p1 &&& (2147483647 : Int32)) (6 : Int32))), .val (.ref w), .val (.int (3 : Int32)), .val (.int (0 : Int32)), .unset] [(.int ((3 : Int32) >>> ((0 : Int32) &&& 31)))])) _
    refine XS.iconst X101.here hx rfl (hb hby at_118) ?_
    show Steps p.tables e below (T101.setTop (mkF m 119 #[.val (.int p1), .val (.int p2), .val (.int (irm (p1 &&& (2147483647 : Int32)) (6 : Int32))), .val (.ref w), .val (.int (3 : Int32)), .val (.int (0 : Int32)), .unset] [(.int (1 : Int32)), (.int ((3 : Int32) >>> ((0 : Int32) &&& 31)))])) _
    refine XS.iand X101.here hx rfl (hb hby at_119) rfl ?_
    show Steps p.tables e below (T101.setTop (mkF m 120 #[.val (.int p1), .val (.int p2), .val (.int (irm (p1 &&& (2147483647 : Int32)) (6 : Int32))), .val (.ref w), .val (.int (3 : Int32)), .val (.int (0 : Int32)), .unset] [(.int (((3 : Int32) >>> ((0 : Int32) &&& 31)) &&& (1 : Int32)))])) _
    refine XS.ifNo X101.here hx rfl (hb hby at_120) rfl ((if0 _ _).trans (feq (by decide : ¬ ((((3 : Int32) >>> ((0 : Int32) &&& 31)) &&& (1 : Int32)) = (0 : Int32)))).1) ?_
    show Steps p.tables e below (T101.setTop (mkF m 123 #[.val (.int p1), .val (.int p2), .val (.int (irm (p1 &&& (2147483647 : Int32)) (6 : Int32))), .val (.ref w), .val (.int (3 : Int32)), .val (.int (0 : Int32)), .unset] [])) _
    refine XS.iconst X101.here hx rfl (hb hby at_123) ?_
    show Steps p.tables e below (T101.setTop (mkF m 124 #[.val (.int p1), .val (.int p2), .val (.int (irm (p1 &&& (2147483647 : Int32)) (6 : Int32))), .val (.ref w), .val (.int (3 : Int32)), .val (.int (0 : Int32)), .unset] [(.int (1 : Int32))])) _
    refine XS.goto X101.here hx rfl (pc0 := 124) (pc' := 128) rfl (hb hby at_124) (by decide) (by decide) ?_
    show Steps p.tables e below (T101.setTop (mkF m 128 #[.val (.int p1), .val (.int p2), .val (.int (irm (p1 &&& (2147483647 : Int32)) (6 : Int32))), .val (.ref w), .val (.int (3 : Int32)), .val (.int (0 : Int32)), .unset] [(.int (1 : Int32))])) _
    refine XS.istore X101.here hx rfl (hb hby at_128) rfl (l' := #[.val (.int p1), .val (.int p2), .val (.int (irm (p1 &&& (2147483647 : Int32)) (6 : Int32))), .val (.ref w), .val (.int (3 : Int32)), .val (.int (0 : Int32)), .val (.int (1 : Int32))]) rfl ?_
    show Steps p.tables e below (T101.setTop (mkF m 130 #[.val (.int p1), .val (.int p2), .val (.int (irm (p1 &&& (2147483647 : Int32)) (6 : Int32))), .val (.ref w), .val (.int (3 : Int32)), .val (.int (0 : Int32)), .val (.int (1 : Int32))] [])) _
    refine XS.aloadN X101.here hx rfl (hb hby at_130) rfl rfl ?_
    show Steps p.tables e below (T101.setTop (mkF m 131 #[.val (.int p1), .val (.int p2), .val (.int (irm (p1 &&& (2147483647 : Int32)) (6 : Int32))), .val (.ref w), .val (.int (3 : Int32)), .val (.int (0 : Int32)), .val (.int (1 : Int32))] [(.ref w)])) _
    refine XS.iloadN X101.here hx rfl (hb hby at_131) rfl ?_
    show Steps p.tables e below (T101.setTop (mkF m 132 #[.val (.int p1), .val (.int p2), .val (.int (irm (p1 &&& (2147483647 : Int32)) (6 : Int32))), .val (.ref w), .val (.int (3 : Int32)), .val (.int (0 : Int32)), .val (.int (1 : Int32))] [(.int p2), (.ref w)])) _
    refine st102.trans ?_
    show Steps p.tables e below (T102.setTop (mkF m 135 #[.val (.int p1), .val (.int p2), .val (.int (irm (p1 &&& (2147483647 : Int32)) (6 : Int32))), .val (.ref w), .val (.int (3 : Int32)), .val (.int (0 : Int32)), .val (.int (1 : Int32))] [(.int (1 : Int32))])) _
    refine XS.iload X102.here hx rfl (hb hby at_135) rfl ?_
    show Steps p.tables e below (T102.setTop (mkF m 137 #[.val (.int p1), .val (.int p2), .val (.int (irm (p1 &&& (2147483647 : Int32)) (6 : Int32))), .val (.ref w), .val (.int (3 : Int32)), .val (.int (0 : Int32)), .val (.int (1 : Int32))] [(.int (1 : Int32)), (.int (1 : Int32))])) _
    refine XS.icmpNo X102.here hx rfl (hb hby at_137) rfl (teq (by decide : (1 : Int32) = (1 : Int32))).2 ?_
    show Steps p.tables e below (T102.setTop (mkF m 140 #[.val (.int p1), .val (.int p2), .val (.int (irm (p1 &&& (2147483647 : Int32)) (6 : Int32))), .val (.ref w), .val (.int (3 : Int32)), .val (.int (0 : Int32)), .val (.int (1 : Int32))] [])) _
    refine XS.iconst X102.here hx rfl (hb hby at_140) ?_
    show Steps p.tables e below (T102.setTop (mkF m 141 #[.val (.int p1), .val (.int p2), .val (.int (irm (p1 &&& (2147483647 : Int32)) (6 : Int32))), .val (.ref w), .val (.int (3 : Int32)), .val (.int (0 : Int32)), .val (.int (1 : Int32))] [(.int (1 : Int32))])) _
    refine XS.goto X102.here hx rfl (pc0 := 141) (pc' := 145) rfl (hb hby at_141) (by decide) (by decide) ?_
    show Steps p.tables e below (T102.setTop (mkF m 145 #[.val (.int p1), .val (.int p2), .val (.int (irm (p1 &&& (2147483647 : Int32)) (6 : Int32))), .val (.ref w), .val (.int (3 : Int32)), .val (.int (0 : Int32)), .val (.int (1 : Int32))] [(.int (1 : Int32))])) _
    exact retN X102 hx (t := .boolean) Bd.returns (by simp) (hb hby at_145) hr
  · show Q0 h0 n0 _ T102.heap _
    rw [e102]
    exact ⟨rfl, N102⟩
set_option maxRecDepth 65536 in
set_option maxHeartbeats 40000000 in
theorem rm0_4e (l : Launch) (Z : State) (a0 : Array Value) (hw : ∀ d ∈ tables_1, d.before a0 Z = true) (ws : List Jvm.Cond) (p1 p2 : Int32) (w : Addr) (h0 : Heap) (n0 : Nat) (O0 : Old Z n0 h0) (S : Sta Z Z.heap "com/example/plugroot/plugroot/sql/Comparison" "LESS_OR_EQUAL" "Lcom/example/plugroot/plugroot/sql/Comparison;" (.ref w)) (E : Exa Z Z.heap w "com/example/plugroot/plugroot/sql/Comparison") (F_o : Fld Z Z.heap w "java/lang/Enum" "ordinal" "I" (.int 4)) (k0 : ¬ ((irm (p1 &&& (2147483647 : Int32)) (6 : Int32)) = 0)) (k1 : ¬ ((irm (p1 &&& (2147483647 : Int32)) (6 : Int32)) = 1)) (k2 : ¬ ((irm (p1 &&& (2147483647 : Int32)) (6 : Int32)) = 2)) (k3 : ¬ ((irm (p1 &&& (2147483647 : Int32)) (6 : Int32)) = 3)) (k4 : (irm (p1 &&& (2147483647 : Int32)) (6 : Int32)) = 4) (s1 : ¬ (p2 < 0)) (s2 : p2 = 0) :
    MetFree l x (head1 (Jvm.Cond.code x code maxLocals ret :: ws) room_1) (fun a_ U => a_ = #[(.int p1), (.int p2)] ∧ Z.Warmed39 U.vm ∧ U.heap = h0) (fun _ _ _ _ _ => True) (fun _ U o U' => ∃ v L, o = .returned v ∧ Q0 h0 n0 v U'.heap L ∧ FrameEnd U o U' L room_1.cells room_1.slots) := by
  refine MetFree.of_bodySF (plainFor_of_name pn_2) hisR ?_
  intro p e s m args below meth c s₁ Bd hml0 hP hK
  obtain ⟨rfl, hZ, hh⟩ := hP
  have hx := Bd.exec
  have hby := Bd.bytes
  have hml : c.maxLocals = 7 := hml0
  have hown : s.vm.findClass "com/example/plugroot/plugroot/sql/ComparisonHoldsPinLaw" = some m.cls := findClass_of_methodNamed Bd.named
  have hnm := (name_of_methodNamed Bd.named Bd.method).1
  have X0 : Stand p l e room_1 s m #[(.int p1), (.int p2)] below meth c s₁ [] 0 0 := Stand.of_body Bd
  have e0 : s₁.heap = h0 := by rw [← hh, Bd.state]; rfl
  have N0 := Fr.nil n0
  have pre0 : ∀ tg, Steps p.tables e below (s₁.setTop (mkF m 0 #[.val (.int p1), .val (.int p2), .unset, .unset, .unset, .unset, .unset] [])) tg → Steps p.tables e below (s₁.setTop (entryFrame m #[(.int p1), (.int p2)] maxLocals)) tg := fun tg kq => castTop (ef_II_7m m p1 p2) kq
  obtain ⟨T101, X101, e101, st101⟩ := getS2 X0 hx hZ hown (host := "") (Or.inl (wi hw 20 rfl)) Via.refl e0 (S.ext O0.2) (g := (mkF m 72 #[.val (.int p1), .val (.int p2), .val (.int (irm (p1 &&& (2147483647 : Int32)) (6 : Int32))), .unset, .unset, .unset, .unset] [])) rfl (hb hby at_72)
  obtain ⟨cq102, kq102, q102a, q102b, q102c⟩ := isOf hZ e101 (E.ext O0.2)
  obtain ⟨_, _, ⟨T102, L102, k102, n102⟩, -, X102, ⟨Lc102, hQ102, l102, y102, z102⟩, st102⟩ := X101.virtualBack hx (y := (⟨"com/example/plugroot/plugroot/sql/Comparison", "holds", "(I)Z"⟩ : MethodName)) (z := (⟨"com/example/plugroot/plugroot/sql/Comparison", "holds", "(I)Z"⟩ : MethodName)) hown (mvT hZ (wi hw 4 rfl)) (mvT hZ (wi hw 5 rfl)) (notFace_of_selects (args := #[]) (mvT hZ (wi hw 7 rfl))) (mvT hZ (wi hw 7 rfl)) (mvT hZ (wi hw 6 rfl)) (by decide) (backOf (W := 0) (rm1_4f l Z a0 hw [] w p2 h0 n0 O0 F_o E (own_sg_eq s2).2) hZ (wi hw 8 rfl) (wi hw 2 rfl) (by decide) (by decide)) q102a q102c (g := (mkF m 132 #[.val (.int p1), .val (.int p2), .val (.int (irm (p1 &&& (2147483647 : Int32)) (6 : Int32))), .val (.ref w), .val (.int (3 : Int32)), .val (.int (1 : Int32)), .val (.int (1 : Int32))] [(.int p2), (.ref w)])) rfl (by rw [hml]; rfl) (Steps.refl _) (argsL := [(.int p2)]) (rest := []) (lenOf pd_1 rfl) rfl (by show 2 * 0 + _ ≤ _; exact Nat.le_of_eq rfl) (hb hby at_132) (fun _ _ => ⟨rfl, e101, (by decide : 0 + 0 ≤ _), (by decide : 0 + 0 ≤ _)⟩)
  dsimp only [Pt.U, Pt.locs, Pt.cells, Pt.slots] at X102 l102 y102 z102 st102 hQ102
  subst l102 y102 z102
  obtain ⟨rfl, N102q, hh102⟩ := hQ102
  have e102 : T102.heap = h0 := hh102
  have N102 := Fr.app N0 N102q
  obtain ⟨fs, hr, hrun, hended, hW, hsame⟩ := X102.leave (v := some (.int (1 : Int32))) (fun h => by rw [Bd.returns] at h; cases h)
  refine ⟨_, _, pre0 _ ?_, hrun, hended, _, _, rfl, ?_, ⟨_, rfl⟩, hW, hsame.mono (by decide) (by decide)⟩
  · show Steps p.tables e below (s₁.setTop (mkF m 0 #[.val (.int p1), .val (.int p2), .unset, .unset, .unset, .unset, .unset] [])) _
    refine XS.iloadN X0.here hx rfl (hb hby at_0) rfl ?_
    show Steps p.tables e below (s₁.setTop (mkF m 1 #[.val (.int p1), .val (.int p2), .unset, .unset, .unset, .unset, .unset] [(.int p1)])) _
    refine X0.ldcInt hx hown (mvT hZ (wi hw 0 rfl)) (g := (mkF m 1 #[.val (.int p1), .val (.int p2), .unset, .unset, .unset, .unset, .unset] [(.int p1)])) rfl (hb hby at_1) _ ?_
    show Steps p.tables e below (s₁.setTop (mkF m 3 #[.val (.int p1), .val (.int p2), .unset, .unset, .unset, .unset, .unset] [(.int (2147483647 : Int32)), (.int p1)])) _
    refine XS.iand X0.here hx rfl (hb hby at_3) rfl ?_
    show Steps p.tables e below (s₁.setTop (mkF m 4 #[.val (.int p1), .val (.int p2), .unset, .unset, .unset, .unset, .unset] [(.int (p1 &&& (2147483647 : Int32)))])) _
    refine XS.bipush X0.here hx rfl (hb hby at_4) ?_
    show Steps p.tables e below (s₁.setTop (mkF m 6 #[.val (.int p1), .val (.int p2), .unset, .unset, .unset, .unset, .unset] [(.int (6 : Int32)), (.int (p1 &&& (2147483647 : Int32)))])) _
    refine XS.irem X0.here hx rfl (hb hby at_6) rfl (by decide) ?_
    show Steps p.tables e below (s₁.setTop (mkF m 7 #[.val (.int p1), .val (.int p2), .unset, .unset, .unset, .unset, .unset] [(.int (irm (p1 &&& (2147483647 : Int32)) (6 : Int32)))])) _
    refine XS.istoreN X0.here hx rfl (hb hby at_7) rfl (l' := #[.val (.int p1), .val (.int p2), .val (.int (irm (p1 &&& (2147483647 : Int32)) (6 : Int32))), .unset, .unset, .unset, .unset]) rfl ?_
    show Steps p.tables e below (s₁.setTop (mkF m 8 #[.val (.int p1), .val (.int p2), .val (.int (irm (p1 &&& (2147483647 : Int32)) (6 : Int32))), .unset, .unset, .unset, .unset] [])) _
    refine XS.iloadN X0.here hx rfl (hb hby at_8) rfl ?_
    show Steps p.tables e below (s₁.setTop (mkF m 9 #[.val (.int p1), .val (.int p2), .val (.int (irm (p1 &&& (2147483647 : Int32)) (6 : Int32))), .unset, .unset, .unset, .unset] [(.int (irm (p1 &&& (2147483647 : Int32)) (6 : Int32)))])) _
    refine XS.ifYes X0.here hx rfl (pc0 := 9) (pc' := 22) rfl (hb hby at_9) rfl ((if0 _ _).trans (feq k0).2) (by decide) (by decide) ?_
    show Steps p.tables e below (s₁.setTop (mkF m 22 #[.val (.int p1), .val (.int p2), .val (.int (irm (p1 &&& (2147483647 : Int32)) (6 : Int32))), .unset, .unset, .unset, .unset] [])) _
    refine XS.iloadN X0.here hx rfl (hb hby at_22) rfl ?_
    show Steps p.tables e below (s₁.setTop (mkF m 23 #[.val (.int p1), .val (.int p2), .val (.int (irm (p1 &&& (2147483647 : Int32)) (6 : Int32))), .unset, .unset, .unset, .unset] [(.int (irm (p1 &&& (2147483647 : Int32)) (6 : Int32)))])) _
    refine XS.iconst X0.here hx rfl (hb hby at_23) ?_
    show Steps p.tables e below (s₁.setTop (mkF m 24 #[.val (.int p1), .val (.int p2), .val (.int (irm (p1 &&& (2147483647 : Int32)) (6 : Int32))), .unset, .unset, .unset, .unset] [(.int (1 : Int32)), (.int (irm (p1 &&& (2147483647 : Int32)) (6 : Int32)))])) _
    refine XS.icmpYes X0.here hx rfl (pc0 := 24) (pc' := 37) rfl (hb hby at_24) rfl (feq k1).2 (by decide) (by decide) ?_
    show Steps p.tables e below (s₁.setTop (mkF m 37 #[.val (.int p1), .val (.int p2), .val (.int (irm (p1 &&& (2147483647 : Int32)) (6 : Int32))), .unset, .unset, .unset, .unset] [])) _
    refine XS.iloadN X0.here hx rfl (hb hby at_37) rfl ?_
    show Steps p.tables e below (s₁.setTop (mkF m 38 #[.val (.int p1), .val (.int p2), .val (.int (irm (p1 &&& (2147483647 : Int32)) (6 : Int32))), .unset, .unset, .unset, .unset] [(.int (irm (p1 &&& (2147483647 : Int32)) (6 : Int32)))])) _
    refine XS.iconst X0.here hx rfl (hb hby at_38) ?_
    show Steps p.tables e below (s₁.setTop (mkF m 39 #[.val (.int p1), .val (.int p2), .val (.int (irm (p1 &&& (2147483647 : Int32)) (6 : Int32))), .unset, .unset, .unset, .unset] [(.int (2 : Int32)), (.int (irm (p1 &&& (2147483647 : Int32)) (6 : Int32)))])) _
    refine XS.icmpYes X0.here hx rfl (pc0 := 39) (pc' := 52) rfl (hb hby at_39) rfl (feq k2).2 (by decide) (by decide) ?_
    show Steps p.tables e below (s₁.setTop (mkF m 52 #[.val (.int p1), .val (.int p2), .val (.int (irm (p1 &&& (2147483647 : Int32)) (6 : Int32))), .unset, .unset, .unset, .unset] [])) _
    refine XS.iloadN X0.here hx rfl (hb hby at_52) rfl ?_
    show Steps p.tables e below (s₁.setTop (mkF m 53 #[.val (.int p1), .val (.int p2), .val (.int (irm (p1 &&& (2147483647 : Int32)) (6 : Int32))), .unset, .unset, .unset, .unset] [(.int (irm (p1 &&& (2147483647 : Int32)) (6 : Int32)))])) _
    refine XS.iconst X0.here hx rfl (hb hby at_53) ?_
    show Steps p.tables e below (s₁.setTop (mkF m 54 #[.val (.int p1), .val (.int p2), .val (.int (irm (p1 &&& (2147483647 : Int32)) (6 : Int32))), .unset, .unset, .unset, .unset] [(.int (3 : Int32)), (.int (irm (p1 &&& (2147483647 : Int32)) (6 : Int32)))])) _
    refine XS.icmpYes X0.here hx rfl (pc0 := 54) (pc' := 67) rfl (hb hby at_54) rfl (feq k3).2 (by decide) (by decide) ?_
    show Steps p.tables e below (s₁.setTop (mkF m 67 #[.val (.int p1), .val (.int p2), .val (.int (irm (p1 &&& (2147483647 : Int32)) (6 : Int32))), .unset, .unset, .unset, .unset] [])) _
    refine XS.iloadN X0.here hx rfl (hb hby at_67) rfl ?_
    show Steps p.tables e below (s₁.setTop (mkF m 68 #[.val (.int p1), .val (.int p2), .val (.int (irm (p1 &&& (2147483647 : Int32)) (6 : Int32))), .unset, .unset, .unset, .unset] [(.int (irm (p1 &&& (2147483647 : Int32)) (6 : Int32)))])) _
    refine XS.iconst X0.here hx rfl (hb hby at_68) ?_
    show Steps p.tables e below (s₁.setTop (mkF m 69 #[.val (.int p1), .val (.int p2), .val (.int (irm (p1 &&& (2147483647 : Int32)) (6 : Int32))), .unset, .unset, .unset, .unset] [(.int (4 : Int32)), (.int (irm (p1 &&& (2147483647 : Int32)) (6 : Int32)))])) _
    refine XS.icmpNo X0.here hx rfl (hb hby at_69) rfl (teq k4).2 ?_
    show Steps p.tables e below (s₁.setTop (mkF m 72 #[.val (.int p1), .val (.int p2), .val (.int (irm (p1 &&& (2147483647 : Int32)) (6 : Int32))), .unset, .unset, .unset, .unset] [])) _
    refine st101 _ ?_
    show Steps p.tables e below (T101.setTop (mkF m 75 #[.val (.int p1), .val (.int p2), .val (.int (irm (p1 &&& (2147483647 : Int32)) (6 : Int32))), .unset, .unset, .unset, .unset] [(.ref w)])) _
    refine XS.astoreN X101.here hx rfl (hb hby at_75) rfl rfl (l' := #[.val (.int p1), .val (.int p2), .val (.int (irm (p1 &&& (2147483647 : Int32)) (6 : Int32))), .val (.ref w), .unset, .unset, .unset]) rfl ?_
    show Steps p.tables e below (T101.setTop (mkF m 76 #[.val (.int p1), .val (.int p2), .val (.int (irm (p1 &&& (2147483647 : Int32)) (6 : Int32))), .val (.ref w), .unset, .unset, .unset] [])) _
    refine XS.iconst X101.here hx rfl (hb hby at_76) ?_
    show Steps p.tables e below (T101.setTop (mkF m 77 #[.val (.int p1), .val (.int p2), .val (.int (irm (p1 &&& (2147483647 : Int32)) (6 : Int32))), .val (.ref w), .unset, .unset, .unset] [(.int (3 : Int32))])) _
    refine XS.istore X101.here hx rfl (hb hby at_77) rfl (l' := #[.val (.int p1), .val (.int p2), .val (.int (irm (p1 &&& (2147483647 : Int32)) (6 : Int32))), .val (.ref w), .val (.int (3 : Int32)), .unset, .unset]) rfl ?_
    show Steps p.tables e below (T101.setTop (mkF m 79 #[.val (.int p1), .val (.int p2), .val (.int (irm (p1 &&& (2147483647 : Int32)) (6 : Int32))), .val (.ref w), .val (.int (3 : Int32)), .unset, .unset] [])) _
    refine XS.goto X101.here hx rfl (pc0 := 79) (pc' := 90) rfl (hb hby at_79) (by decide) (by decide) ?_
    show Steps p.tables e below (T101.setTop (mkF m 90 #[.val (.int p1), .val (.int p2), .val (.int (irm (p1 &&& (2147483647 : Int32)) (6 : Int32))), .val (.ref w), .val (.int (3 : Int32)), .unset, .unset] [])) _
    refine XS.iloadN X101.here hx rfl (hb hby at_90) rfl ?_
    show Steps p.tables e below (T101.setTop (mkF m 91 #[.val (.int p1), .val (.int p2), .val (.int (irm (p1 &&& (2147483647 : Int32)) (6 : Int32))), .val (.ref w), .val (.int (3 : Int32)), .unset, .unset] [(.int p2)])) _
    refine XS.ifYes X101.here hx rfl (pc0 := 91) (pc' := 100) rfl (hb hby at_91) rfl ((if0 _ _).trans (flt s1).2.1) (by decide) (by decide) ?_
    show Steps p.tables e below (T101.setTop (mkF m 100 #[.val (.int p1), .val (.int p2), .val (.int (irm (p1 &&& (2147483647 : Int32)) (6 : Int32))), .val (.ref w), .val (.int (3 : Int32)), .unset, .unset] [])) _
    refine XS.iloadN X101.here hx rfl (hb hby at_100) rfl ?_
    show Steps p.tables e below (T101.setTop (mkF m 101 #[.val (.int p1), .val (.int p2), .val (.int (irm (p1 &&& (2147483647 : Int32)) (6 : Int32))), .val (.ref w), .val (.int (3 : Int32)), .unset, .unset] [(.int p2)])) _
    refine XS.ifNo X101.here hx rfl (hb hby at_101) rfl ((if0 _ _).trans (teq s2).2) ?_
    show Steps p.tables e below (T101.setTop (mkF m 104 #[.val (.int p1), .val (.int p2), .val (.int (irm (p1 &&& (2147483647 : Int32)) (6 : Int32))), .val (.ref w), .val (.int (3 : Int32)), .unset, .unset] [])) _
    refine XS.iconst X101.here hx rfl (hb hby at_104) ?_
    show Steps p.tables e below (T101.setTop (mkF m 105 #[.val (.int p1), .val (.int p2), .val (.int (irm (p1 &&& (2147483647 : Int32)) (6 : Int32))), .val (.ref w), .val (.int (3 : Int32)), .unset, .unset] [(.int (1 : Int32))])) _
    refine XS.istore X101.here hx rfl (hb hby at_105) rfl (l' := #[.val (.int p1), .val (.int p2), .val (.int (irm (p1 &&& (2147483647 : Int32)) (6 : Int32))), .val (.ref w), .val (.int (3 : Int32)), .val (.int (1 : Int32)), .unset]) rfl ?_
    show Steps p.tables e below (T101.setTop (mkF m 107 #[.val (.int p1), .val (.int p2), .val (.int (irm (p1 &&& (2147483647 : Int32)) (6 : Int32))), .val (.ref w), .val (.int (3 : Int32)), .val (.int (1 : Int32)), .unset] [])) _
    refine XS.goto X101.here hx rfl (pc0 := 107) (pc' := 113) rfl (hb hby at_107) (by decide) (by decide) ?_
    show Steps p.tables e below (T101.setTop (mkF m 113 #[.val (.int p1), .val (.int p2), .val (.int (irm (p1 &&& (2147483647 : Int32)) (6 : Int32))), .val (.ref w), .val (.int (3 : Int32)), .val (.int (1 : Int32)), .unset] [])) _
    refine XS.iload X101.here hx rfl (hb hby at_113) rfl ?_
    show Steps p.tables e below (T101.setTop (mkF m 115 #[.val (.int p1), .val (.int p2), .val (.int (irm (p1 &&& (2147483647 : Int32)) (6 : Int32))), .val (.ref w), .val (.int (3 : Int32)), .val (.int (1 : Int32)), .unset] [(.int (3 : Int32))])) _
    refine XS.iload X101.here hx rfl (hb hby at_115) rfl ?_
    show Steps p.tables e below (T101.setTop (mkF m 117 #[.val (.int p1), .val (.int p2), .val (.int (irm (p1 &&& (2147483647 : Int32)) (6 : Int32))), .val (.ref w), .val (.int (3 : Int32)), .val (.int (1 : Int32)), .unset] [(.int (1 : Int32)), (.int (3 : Int32))])) _
    refine XS.ishr X101.here hx rfl (hb hby at_117) rfl ?_
    show Steps p.tables e below (T101.setTop (mkF m 118 #[.val (.int p1), .val (.int p2), .val (.int (irm (p1 &&& (2147483647 : Int32)) (6 : Int32))), .val (.ref w), .val (.int (3 : Int32)), .val (.int (1 : Int32)), .unset] [(.int ((3 : Int32) >>> ((1 : Int32) &&& 31)))])) _
    refine XS.iconst X101.here hx rfl (hb hby at_118) ?_
    show Steps p.tables e below (T101.setTop (mkF m 119 #[.val (.int p1), .val (.int p2), .val (.int (irm (p1 &&& (2147483647 : Int32)) (6 : Int32))), .val (.ref w), .val (.int (3 : Int32)), .val (.int (1 : Int32)), .unset] [(.int (1 : Int32)), (.int ((3 : Int32) >>> ((1 : Int32) &&& 31)))])) _
    refine XS.iand X101.here hx rfl (hb hby at_119) rfl ?_
    show Steps p.tables e below (T101.setTop (mkF m 120 #[.val (.int p1), .val (.int p2), .val (.int (irm (p1 &&& (2147483647 : Int32)) (6 : Int32))), .val (.ref w), .val (.int (3 : Int32)), .val (.int (1 : Int32)), .unset] [(.int (((3 : Int32) >>> ((1 : Int32) &&& 31)) &&& (1 : Int32)))])) _
    refine XS.ifNo X101.here hx rfl (hb hby at_120) rfl ((if0 _ _).trans (feq (by decide : ¬ ((((3 : Int32) >>> ((1 : Int32) &&& 31)) &&& (1 : Int32)) = (0 : Int32)))).1) ?_
    show Steps p.tables e below (T101.setTop (mkF m 123 #[.val (.int p1), .val (.int p2), .val (.int (irm (p1 &&& (2147483647 : Int32)) (6 : Int32))), .val (.ref w), .val (.int (3 : Int32)), .val (.int (1 : Int32)), .unset] [])) _
    refine XS.iconst X101.here hx rfl (hb hby at_123) ?_
    show Steps p.tables e below (T101.setTop (mkF m 124 #[.val (.int p1), .val (.int p2), .val (.int (irm (p1 &&& (2147483647 : Int32)) (6 : Int32))), .val (.ref w), .val (.int (3 : Int32)), .val (.int (1 : Int32)), .unset] [(.int (1 : Int32))])) _
    refine XS.goto X101.here hx rfl (pc0 := 124) (pc' := 128) rfl (hb hby at_124) (by decide) (by decide) ?_
    show Steps p.tables e below (T101.setTop (mkF m 128 #[.val (.int p1), .val (.int p2), .val (.int (irm (p1 &&& (2147483647 : Int32)) (6 : Int32))), .val (.ref w), .val (.int (3 : Int32)), .val (.int (1 : Int32)), .unset] [(.int (1 : Int32))])) _
    refine XS.istore X101.here hx rfl (hb hby at_128) rfl (l' := #[.val (.int p1), .val (.int p2), .val (.int (irm (p1 &&& (2147483647 : Int32)) (6 : Int32))), .val (.ref w), .val (.int (3 : Int32)), .val (.int (1 : Int32)), .val (.int (1 : Int32))]) rfl ?_
    show Steps p.tables e below (T101.setTop (mkF m 130 #[.val (.int p1), .val (.int p2), .val (.int (irm (p1 &&& (2147483647 : Int32)) (6 : Int32))), .val (.ref w), .val (.int (3 : Int32)), .val (.int (1 : Int32)), .val (.int (1 : Int32))] [])) _
    refine XS.aloadN X101.here hx rfl (hb hby at_130) rfl rfl ?_
    show Steps p.tables e below (T101.setTop (mkF m 131 #[.val (.int p1), .val (.int p2), .val (.int (irm (p1 &&& (2147483647 : Int32)) (6 : Int32))), .val (.ref w), .val (.int (3 : Int32)), .val (.int (1 : Int32)), .val (.int (1 : Int32))] [(.ref w)])) _
    refine XS.iloadN X101.here hx rfl (hb hby at_131) rfl ?_
    show Steps p.tables e below (T101.setTop (mkF m 132 #[.val (.int p1), .val (.int p2), .val (.int (irm (p1 &&& (2147483647 : Int32)) (6 : Int32))), .val (.ref w), .val (.int (3 : Int32)), .val (.int (1 : Int32)), .val (.int (1 : Int32))] [(.int p2), (.ref w)])) _
    refine st102.trans ?_
    show Steps p.tables e below (T102.setTop (mkF m 135 #[.val (.int p1), .val (.int p2), .val (.int (irm (p1 &&& (2147483647 : Int32)) (6 : Int32))), .val (.ref w), .val (.int (3 : Int32)), .val (.int (1 : Int32)), .val (.int (1 : Int32))] [(.int (1 : Int32))])) _
    refine XS.iload X102.here hx rfl (hb hby at_135) rfl ?_
    show Steps p.tables e below (T102.setTop (mkF m 137 #[.val (.int p1), .val (.int p2), .val (.int (irm (p1 &&& (2147483647 : Int32)) (6 : Int32))), .val (.ref w), .val (.int (3 : Int32)), .val (.int (1 : Int32)), .val (.int (1 : Int32))] [(.int (1 : Int32)), (.int (1 : Int32))])) _
    refine XS.icmpNo X102.here hx rfl (hb hby at_137) rfl (teq (by decide : (1 : Int32) = (1 : Int32))).2 ?_
    show Steps p.tables e below (T102.setTop (mkF m 140 #[.val (.int p1), .val (.int p2), .val (.int (irm (p1 &&& (2147483647 : Int32)) (6 : Int32))), .val (.ref w), .val (.int (3 : Int32)), .val (.int (1 : Int32)), .val (.int (1 : Int32))] [])) _
    refine XS.iconst X102.here hx rfl (hb hby at_140) ?_
    show Steps p.tables e below (T102.setTop (mkF m 141 #[.val (.int p1), .val (.int p2), .val (.int (irm (p1 &&& (2147483647 : Int32)) (6 : Int32))), .val (.ref w), .val (.int (3 : Int32)), .val (.int (1 : Int32)), .val (.int (1 : Int32))] [(.int (1 : Int32))])) _
    refine XS.goto X102.here hx rfl (pc0 := 141) (pc' := 145) rfl (hb hby at_141) (by decide) (by decide) ?_
    show Steps p.tables e below (T102.setTop (mkF m 145 #[.val (.int p1), .val (.int p2), .val (.int (irm (p1 &&& (2147483647 : Int32)) (6 : Int32))), .val (.ref w), .val (.int (3 : Int32)), .val (.int (1 : Int32)), .val (.int (1 : Int32))] [(.int (1 : Int32))])) _
    exact retN X102 hx (t := .boolean) Bd.returns (by simp) (hb hby at_145) hr
  · show Q0 h0 n0 _ T102.heap _
    rw [e102]
    exact ⟨rfl, N102⟩
set_option maxRecDepth 65536 in
set_option maxHeartbeats 40000000 in
theorem rm0_4g (l : Launch) (Z : State) (a0 : Array Value) (hw : ∀ d ∈ tables_1, d.before a0 Z = true) (ws : List Jvm.Cond) (p1 p2 : Int32) (w : Addr) (h0 : Heap) (n0 : Nat) (O0 : Old Z n0 h0) (S : Sta Z Z.heap "com/example/plugroot/plugroot/sql/Comparison" "LESS_OR_EQUAL" "Lcom/example/plugroot/plugroot/sql/Comparison;" (.ref w)) (E : Exa Z Z.heap w "com/example/plugroot/plugroot/sql/Comparison") (F_o : Fld Z Z.heap w "java/lang/Enum" "ordinal" "I" (.int 4)) (k0 : ¬ ((irm (p1 &&& (2147483647 : Int32)) (6 : Int32)) = 0)) (k1 : ¬ ((irm (p1 &&& (2147483647 : Int32)) (6 : Int32)) = 1)) (k2 : ¬ ((irm (p1 &&& (2147483647 : Int32)) (6 : Int32)) = 2)) (k3 : ¬ ((irm (p1 &&& (2147483647 : Int32)) (6 : Int32)) = 3)) (k4 : (irm (p1 &&& (2147483647 : Int32)) (6 : Int32)) = 4) (s1 : ¬ (p2 < 0)) (s2 : ¬ (p2 = 0)) :
    MetFree l x (head1 (Jvm.Cond.code x code maxLocals ret :: ws) room_1) (fun a_ U => a_ = #[(.int p1), (.int p2)] ∧ Z.Warmed39 U.vm ∧ U.heap = h0) (fun _ _ _ _ _ => True) (fun _ U o U' => ∃ v L, o = .returned v ∧ Q0 h0 n0 v U'.heap L ∧ FrameEnd U o U' L room_1.cells room_1.slots) := by
  refine MetFree.of_bodySF (plainFor_of_name pn_2) hisR ?_
  intro p e s m args below meth c s₁ Bd hml0 hP hK
  obtain ⟨rfl, hZ, hh⟩ := hP
  have hx := Bd.exec
  have hby := Bd.bytes
  have hml : c.maxLocals = 7 := hml0
  have hown : s.vm.findClass "com/example/plugroot/plugroot/sql/ComparisonHoldsPinLaw" = some m.cls := findClass_of_methodNamed Bd.named
  have hnm := (name_of_methodNamed Bd.named Bd.method).1
  have X0 : Stand p l e room_1 s m #[(.int p1), (.int p2)] below meth c s₁ [] 0 0 := Stand.of_body Bd
  have e0 : s₁.heap = h0 := by rw [← hh, Bd.state]; rfl
  have N0 := Fr.nil n0
  have pre0 : ∀ tg, Steps p.tables e below (s₁.setTop (mkF m 0 #[.val (.int p1), .val (.int p2), .unset, .unset, .unset, .unset, .unset] [])) tg → Steps p.tables e below (s₁.setTop (entryFrame m #[(.int p1), (.int p2)] maxLocals)) tg := fun tg kq => castTop (ef_II_7m m p1 p2) kq
  obtain ⟨T101, X101, e101, st101⟩ := getS2 X0 hx hZ hown (host := "") (Or.inl (wi hw 20 rfl)) Via.refl e0 (S.ext O0.2) (g := (mkF m 72 #[.val (.int p1), .val (.int p2), .val (.int (irm (p1 &&& (2147483647 : Int32)) (6 : Int32))), .unset, .unset, .unset, .unset] [])) rfl (hb hby at_72)
  obtain ⟨cq102, kq102, q102a, q102b, q102c⟩ := isOf hZ e101 (E.ext O0.2)
  obtain ⟨_, _, ⟨T102, L102, k102, n102⟩, -, X102, ⟨Lc102, hQ102, l102, y102, z102⟩, st102⟩ := X101.virtualBack hx (y := (⟨"com/example/plugroot/plugroot/sql/Comparison", "holds", "(I)Z"⟩ : MethodName)) (z := (⟨"com/example/plugroot/plugroot/sql/Comparison", "holds", "(I)Z"⟩ : MethodName)) hown (mvT hZ (wi hw 4 rfl)) (mvT hZ (wi hw 5 rfl)) (notFace_of_selects (args := #[]) (mvT hZ (wi hw 7 rfl))) (mvT hZ (wi hw 7 rfl)) (mvT hZ (wi hw 6 rfl)) (by decide) (backOf (W := 0) (rm1_4t l Z a0 hw [] w p2 h0 n0 O0 F_o E (own_sg_gt s1 s2)) hZ (wi hw 8 rfl) (wi hw 2 rfl) (by decide) (by decide)) q102a q102c (g := (mkF m 132 #[.val (.int p1), .val (.int p2), .val (.int (irm (p1 &&& (2147483647 : Int32)) (6 : Int32))), .val (.ref w), .val (.int (3 : Int32)), .val (.int (2 : Int32)), .val (.int (0 : Int32))] [(.int p2), (.ref w)])) rfl (by rw [hml]; rfl) (Steps.refl _) (argsL := [(.int p2)]) (rest := []) (lenOf pd_1 rfl) rfl (by show 2 * 0 + _ ≤ _; exact Nat.le_of_eq rfl) (hb hby at_132) (fun _ _ => ⟨rfl, e101, (by decide : 0 + 0 ≤ _), (by decide : 0 + 0 ≤ _)⟩)
  dsimp only [Pt.U, Pt.locs, Pt.cells, Pt.slots] at X102 l102 y102 z102 st102 hQ102
  subst l102 y102 z102
  obtain ⟨rfl, N102q, hh102⟩ := hQ102
  have e102 : T102.heap = h0 := hh102
  have N102 := Fr.app N0 N102q
  obtain ⟨fs, hr, hrun, hended, hW, hsame⟩ := X102.leave (v := some (.int (1 : Int32))) (fun h => by rw [Bd.returns] at h; cases h)
  refine ⟨_, _, pre0 _ ?_, hrun, hended, _, _, rfl, ?_, ⟨_, rfl⟩, hW, hsame.mono (by decide) (by decide)⟩
  · show Steps p.tables e below (s₁.setTop (mkF m 0 #[.val (.int p1), .val (.int p2), .unset, .unset, .unset, .unset, .unset] [])) _
    refine XS.iloadN X0.here hx rfl (hb hby at_0) rfl ?_
    show Steps p.tables e below (s₁.setTop (mkF m 1 #[.val (.int p1), .val (.int p2), .unset, .unset, .unset, .unset, .unset] [(.int p1)])) _
    refine X0.ldcInt hx hown (mvT hZ (wi hw 0 rfl)) (g := (mkF m 1 #[.val (.int p1), .val (.int p2), .unset, .unset, .unset, .unset, .unset] [(.int p1)])) rfl (hb hby at_1) _ ?_
    show Steps p.tables e below (s₁.setTop (mkF m 3 #[.val (.int p1), .val (.int p2), .unset, .unset, .unset, .unset, .unset] [(.int (2147483647 : Int32)), (.int p1)])) _
    refine XS.iand X0.here hx rfl (hb hby at_3) rfl ?_
    show Steps p.tables e below (s₁.setTop (mkF m 4 #[.val (.int p1), .val (.int p2), .unset, .unset, .unset, .unset, .unset] [(.int (p1 &&& (2147483647 : Int32)))])) _
    refine XS.bipush X0.here hx rfl (hb hby at_4) ?_
    show Steps p.tables e below (s₁.setTop (mkF m 6 #[.val (.int p1), .val (.int p2), .unset, .unset, .unset, .unset, .unset] [(.int (6 : Int32)), (.int (p1 &&& (2147483647 : Int32)))])) _
    refine XS.irem X0.here hx rfl (hb hby at_6) rfl (by decide) ?_
    show Steps p.tables e below (s₁.setTop (mkF m 7 #[.val (.int p1), .val (.int p2), .unset, .unset, .unset, .unset, .unset] [(.int (irm (p1 &&& (2147483647 : Int32)) (6 : Int32)))])) _
    refine XS.istoreN X0.here hx rfl (hb hby at_7) rfl (l' := #[.val (.int p1), .val (.int p2), .val (.int (irm (p1 &&& (2147483647 : Int32)) (6 : Int32))), .unset, .unset, .unset, .unset]) rfl ?_
    show Steps p.tables e below (s₁.setTop (mkF m 8 #[.val (.int p1), .val (.int p2), .val (.int (irm (p1 &&& (2147483647 : Int32)) (6 : Int32))), .unset, .unset, .unset, .unset] [])) _
    refine XS.iloadN X0.here hx rfl (hb hby at_8) rfl ?_
    show Steps p.tables e below (s₁.setTop (mkF m 9 #[.val (.int p1), .val (.int p2), .val (.int (irm (p1 &&& (2147483647 : Int32)) (6 : Int32))), .unset, .unset, .unset, .unset] [(.int (irm (p1 &&& (2147483647 : Int32)) (6 : Int32)))])) _
    refine XS.ifYes X0.here hx rfl (pc0 := 9) (pc' := 22) rfl (hb hby at_9) rfl ((if0 _ _).trans (feq k0).2) (by decide) (by decide) ?_
    show Steps p.tables e below (s₁.setTop (mkF m 22 #[.val (.int p1), .val (.int p2), .val (.int (irm (p1 &&& (2147483647 : Int32)) (6 : Int32))), .unset, .unset, .unset, .unset] [])) _
    refine XS.iloadN X0.here hx rfl (hb hby at_22) rfl ?_
    show Steps p.tables e below (s₁.setTop (mkF m 23 #[.val (.int p1), .val (.int p2), .val (.int (irm (p1 &&& (2147483647 : Int32)) (6 : Int32))), .unset, .unset, .unset, .unset] [(.int (irm (p1 &&& (2147483647 : Int32)) (6 : Int32)))])) _
    refine XS.iconst X0.here hx rfl (hb hby at_23) ?_
    show Steps p.tables e below (s₁.setTop (mkF m 24 #[.val (.int p1), .val (.int p2), .val (.int (irm (p1 &&& (2147483647 : Int32)) (6 : Int32))), .unset, .unset, .unset, .unset] [(.int (1 : Int32)), (.int (irm (p1 &&& (2147483647 : Int32)) (6 : Int32)))])) _
    refine XS.icmpYes X0.here hx rfl (pc0 := 24) (pc' := 37) rfl (hb hby at_24) rfl (feq k1).2 (by decide) (by decide) ?_
    show Steps p.tables e below (s₁.setTop (mkF m 37 #[.val (.int p1), .val (.int p2), .val (.int (irm (p1 &&& (2147483647 : Int32)) (6 : Int32))), .unset, .unset, .unset, .unset] [])) _
    refine XS.iloadN X0.here hx rfl (hb hby at_37) rfl ?_
    show Steps p.tables e below (s₁.setTop (mkF m 38 #[.val (.int p1), .val (.int p2), .val (.int (irm (p1 &&& (2147483647 : Int32)) (6 : Int32))), .unset, .unset, .unset, .unset] [(.int (irm (p1 &&& (2147483647 : Int32)) (6 : Int32)))])) _
    refine XS.iconst X0.here hx rfl (hb hby at_38) ?_
    show Steps p.tables e below (s₁.setTop (mkF m 39 #[.val (.int p1), .val (.int p2), .val (.int (irm (p1 &&& (2147483647 : Int32)) (6 : Int32))), .unset, .unset, .unset, .unset] [(.int (2 : Int32)), (.int (irm (p1 &&& (2147483647 : Int32)) (6 : Int32)))])) _
    refine XS.icmpYes X0.here hx rfl (pc0 := 39) (pc' := 52) rfl (hb hby at_39) rfl (feq k2).2 (by decide) (by decide) ?_
    show Steps p.tables e below (s₁.setTop (mkF m 52 #[.val (.int p1), .val (.int p2), .val (.int (irm (p1 &&& (2147483647 : Int32)) (6 : Int32))), .unset, .unset, .unset, .unset] [])) _
    refine XS.iloadN X0.here hx rfl (hb hby at_52) rfl ?_
    show Steps p.tables e below (s₁.setTop (mkF m 53 #[.val (.int p1), .val (.int p2), .val (.int (irm (p1 &&& (2147483647 : Int32)) (6 : Int32))), .unset, .unset, .unset, .unset] [(.int (irm (p1 &&& (2147483647 : Int32)) (6 : Int32)))])) _
    refine XS.iconst X0.here hx rfl (hb hby at_53) ?_
    show Steps p.tables e below (s₁.setTop (mkF m 54 #[.val (.int p1), .val (.int p2), .val (.int (irm (p1 &&& (2147483647 : Int32)) (6 : Int32))), .unset, .unset, .unset, .unset] [(.int (3 : Int32)), (.int (irm (p1 &&& (2147483647 : Int32)) (6 : Int32)))])) _
    refine XS.icmpYes X0.here hx rfl (pc0 := 54) (pc' := 67) rfl (hb hby at_54) rfl (feq k3).2 (by decide) (by decide) ?_
    show Steps p.tables e below (s₁.setTop (mkF m 67 #[.val (.int p1), .val (.int p2), .val (.int (irm (p1 &&& (2147483647 : Int32)) (6 : Int32))), .unset, .unset, .unset, .unset] [])) _
    refine XS.iloadN X0.here hx rfl (hb hby at_67) rfl ?_
    show Steps p.tables e below (s₁.setTop (mkF m 68 #[.val (.int p1), .val (.int p2), .val (.int (irm (p1 &&& (2147483647 : Int32)) (6 : Int32))), .unset, .unset, .unset, .unset] [(.int (irm (p1 &&& (2147483647 : Int32)) (6 : Int32)))])) _
    refine XS.iconst X0.here hx rfl (hb hby at_68) ?_
    show Steps p.tables e below (s₁.setTop (mkF m 69 #[.val (.int p1), .val (.int p2), .val (.int (irm (p1 &&& (2147483647 : Int32)) (6 : Int32))), .unset, .unset, .unset, .unset] [(.int (4 : Int32)), (.int (irm (p1 &&& (2147483647 : Int32)) (6 : Int32)))])) _
    refine XS.icmpNo X0.here hx rfl (hb hby at_69) rfl (teq k4).2 ?_
    show Steps p.tables e below (s₁.setTop (mkF m 72 #[.val (.int p1), .val (.int p2), .val (.int (irm (p1 &&& (2147483647 : Int32)) (6 : Int32))), .unset, .unset, .unset, .unset] [])) _
    refine st101 _ ?_
    show Steps p.tables e below (T101.setTop (mkF m 75 #[.val (.int p1), .val (.int p2), .val (.int (irm (p1 &&& (2147483647 : Int32)) (6 : Int32))), .unset, .unset, .unset, .unset] [(.ref w)])) _
    refine XS.astoreN X101.here hx rfl (hb hby at_75) rfl rfl (l' := #[.val (.int p1), .val (.int p2), .val (.int (irm (p1 &&& (2147483647 : Int32)) (6 : Int32))), .val (.ref w), .unset, .unset, .unset]) rfl ?_
    show Steps p.tables e below (T101.setTop (mkF m 76 #[.val (.int p1), .val (.int p2), .val (.int (irm (p1 &&& (2147483647 : Int32)) (6 : Int32))), .val (.ref w), .unset, .unset, .unset] [])) _
    refine XS.iconst X101.here hx rfl (hb hby at_76) ?_
    show Steps p.tables e below (T101.setTop (mkF m 77 #[.val (.int p1), .val (.int p2), .val (.int (irm (p1 &&& (2147483647 : Int32)) (6 : Int32))), .val (.ref w), .unset, .unset, .unset] [(.int (3 : Int32))])) _
    refine XS.istore X101.here hx rfl (hb hby at_77) rfl (l' := #[.val (.int p1), .val (.int p2), .val (.int (irm (p1 &&& (2147483647 : Int32)) (6 : Int32))), .val (.ref w), .val (.int (3 : Int32)), .unset, .unset]) rfl ?_
    show Steps p.tables e below (T101.setTop (mkF m 79 #[.val (.int p1), .val (.int p2), .val (.int (irm (p1 &&& (2147483647 : Int32)) (6 : Int32))), .val (.ref w), .val (.int (3 : Int32)), .unset, .unset] [])) _
    refine XS.goto X101.here hx rfl (pc0 := 79) (pc' := 90) rfl (hb hby at_79) (by decide) (by decide) ?_
    show Steps p.tables e below (T101.setTop (mkF m 90 #[.val (.int p1), .val (.int p2), .val (.int (irm (p1 &&& (2147483647 : Int32)) (6 : Int32))), .val (.ref w), .val (.int (3 : Int32)), .unset, .unset] [])) _
    refine XS.iloadN X101.here hx rfl (hb hby at_90) rfl ?_
    show Steps p.tables e below (T101.setTop (mkF m 91 #[.val (.int p1), .val (.int p2), .val (.int (irm (p1 &&& (2147483647 : Int32)) (6 : Int32))), .val (.ref w), .val (.int (3 : Int32)), .unset, .unset] [(.int p2)])) _
    refine XS.ifYes X101.here hx rfl (pc0 := 91) (pc' := 100) rfl (hb hby at_91) rfl ((if0 _ _).trans (flt s1).2.1) (by decide) (by decide) ?_
    show Steps p.tables e below (T101.setTop (mkF m 100 #[.val (.int p1), .val (.int p2), .val (.int (irm (p1 &&& (2147483647 : Int32)) (6 : Int32))), .val (.ref w), .val (.int (3 : Int32)), .unset, .unset] [])) _
    refine XS.iloadN X101.here hx rfl (hb hby at_100) rfl ?_
    show Steps p.tables e below (T101.setTop (mkF m 101 #[.val (.int p1), .val (.int p2), .val (.int (irm (p1 &&& (2147483647 : Int32)) (6 : Int32))), .val (.ref w), .val (.int (3 : Int32)), .unset, .unset] [(.int p2)])) _
    refine XS.ifYes X101.here hx rfl (pc0 := 101) (pc' := 110) rfl (hb hby at_101) rfl ((if0 _ _).trans (feq s2).2) (by decide) (by decide) ?_
    show Steps p.tables e below (T101.setTop (mkF m 110 #[.val (.int p1), .val (.int p2), .val (.int (irm (p1 &&& (2147483647 : Int32)) (6 : Int32))), .val (.ref w), .val (.int (3 : Int32)), .unset, .unset] [])) _
    refine XS.iconst X101.here hx rfl (hb hby at_110) ?_
    show Steps p.tables e below (T101.setTop (mkF m 111 #[.val (.int p1), .val (.int p2), .val (.int (irm (p1 &&& (2147483647 : Int32)) (6 : Int32))), .val (.ref w), .val (.int (3 : Int32)), .unset, .unset] [(.int (2 : Int32))])) _
    refine XS.istore X101.here hx rfl (hb hby at_111) rfl (l' := #[.val (.int p1), .val (.int p2), .val (.int (irm (p1 &&& (2147483647 : Int32)) (6 : Int32))), .val (.ref w), .val (.int (3 : Int32)), .val (.int (2 : Int32)), .unset]) rfl ?_
    show Steps p.tables e below (T101.setTop (mkF m 113 #[.val (.int p1), .val (.int p2), .val (.int (irm (p1 &&& (2147483647 : Int32)) (6 : Int32))), .val (.ref w), .val (.int (3 : Int32)), .val (.int (2 : Int32)), .unset] [])) _
    refine XS.iload X101.here hx rfl (hb hby at_113) rfl ?_
    show Steps p.tables e below (T101.setTop (mkF m 115 #[.val (.int p1), .val (.int p2), .val (.int (irm (p1 &&& (2147483647 : Int32)) (6 : Int32))), .val (.ref w), .val (.int (3 : Int32)), .val (.int (2 : Int32)), .unset] [(.int (3 : Int32))])) _
    refine XS.iload X101.here hx rfl (hb hby at_115) rfl ?_
    show Steps p.tables e below (T101.setTop (mkF m 117 #[.val (.int p1), .val (.int p2), .val (.int (irm (p1 &&& (2147483647 : Int32)) (6 : Int32))), .val (.ref w), .val (.int (3 : Int32)), .val (.int (2 : Int32)), .unset] [(.int (2 : Int32)), (.int (3 : Int32))])) _
    refine XS.ishr X101.here hx rfl (hb hby at_117) rfl ?_
    show Steps p.tables e below (T101.setTop (mkF m 118 #[.val (.int p1), .val (.int p2), .val (.int (irm (p1 &&& (2147483647 : Int32)) (6 : Int32))), .val (.ref w), .val (.int (3 : Int32)), .val (.int (2 : Int32)), .unset] [(.int ((3 : Int32) >>> ((2 : Int32) &&& 31)))])) _
    refine XS.iconst X101.here hx rfl (hb hby at_118) ?_
    show Steps p.tables e below (T101.setTop (mkF m 119 #[.val (.int p1), .val (.int p2), .val (.int (irm (p1 &&& (2147483647 : Int32)) (6 : Int32))), .val (.ref w), .val (.int (3 : Int32)), .val (.int (2 : Int32)), .unset] [(.int (1 : Int32)), (.int ((3 : Int32) >>> ((2 : Int32) &&& 31)))])) _
    refine XS.iand X101.here hx rfl (hb hby at_119) rfl ?_
    show Steps p.tables e below (T101.setTop (mkF m 120 #[.val (.int p1), .val (.int p2), .val (.int (irm (p1 &&& (2147483647 : Int32)) (6 : Int32))), .val (.ref w), .val (.int (3 : Int32)), .val (.int (2 : Int32)), .unset] [(.int (((3 : Int32) >>> ((2 : Int32) &&& 31)) &&& (1 : Int32)))])) _
    refine XS.ifYes X101.here hx rfl (pc0 := 120) (pc' := 127) rfl (hb hby at_120) rfl ((if0 _ _).trans (teq (by decide : (((3 : Int32) >>> ((2 : Int32) &&& 31)) &&& (1 : Int32)) = (0 : Int32))).1) (by decide) (by decide) ?_
    show Steps p.tables e below (T101.setTop (mkF m 127 #[.val (.int p1), .val (.int p2), .val (.int (irm (p1 &&& (2147483647 : Int32)) (6 : Int32))), .val (.ref w), .val (.int (3 : Int32)), .val (.int (2 : Int32)), .unset] [])) _
    refine XS.iconst X101.here hx rfl (hb hby at_127) ?_
    show Steps p.tables e below (T101.setTop (mkF m 128 #[.val (.int p1), .val (.int p2), .val (.int (irm (p1 &&& (2147483647 : Int32)) (6 : Int32))), .val (.ref w), .val (.int (3 : Int32)), .val (.int (2 : Int32)), .unset] [(.int (0 : Int32))])) _
    refine XS.istore X101.here hx rfl (hb hby at_128) rfl (l' := #[.val (.int p1), .val (.int p2), .val (.int (irm (p1 &&& (2147483647 : Int32)) (6 : Int32))), .val (.ref w), .val (.int (3 : Int32)), .val (.int (2 : Int32)), .val (.int (0 : Int32))]) rfl ?_
    show Steps p.tables e below (T101.setTop (mkF m 130 #[.val (.int p1), .val (.int p2), .val (.int (irm (p1 &&& (2147483647 : Int32)) (6 : Int32))), .val (.ref w), .val (.int (3 : Int32)), .val (.int (2 : Int32)), .val (.int (0 : Int32))] [])) _
    refine XS.aloadN X101.here hx rfl (hb hby at_130) rfl rfl ?_
    show Steps p.tables e below (T101.setTop (mkF m 131 #[.val (.int p1), .val (.int p2), .val (.int (irm (p1 &&& (2147483647 : Int32)) (6 : Int32))), .val (.ref w), .val (.int (3 : Int32)), .val (.int (2 : Int32)), .val (.int (0 : Int32))] [(.ref w)])) _
    refine XS.iloadN X101.here hx rfl (hb hby at_131) rfl ?_
    show Steps p.tables e below (T101.setTop (mkF m 132 #[.val (.int p1), .val (.int p2), .val (.int (irm (p1 &&& (2147483647 : Int32)) (6 : Int32))), .val (.ref w), .val (.int (3 : Int32)), .val (.int (2 : Int32)), .val (.int (0 : Int32))] [(.int p2), (.ref w)])) _
    refine st102.trans ?_
    show Steps p.tables e below (T102.setTop (mkF m 135 #[.val (.int p1), .val (.int p2), .val (.int (irm (p1 &&& (2147483647 : Int32)) (6 : Int32))), .val (.ref w), .val (.int (3 : Int32)), .val (.int (2 : Int32)), .val (.int (0 : Int32))] [(.int (0 : Int32))])) _
    refine XS.iload X102.here hx rfl (hb hby at_135) rfl ?_
    show Steps p.tables e below (T102.setTop (mkF m 137 #[.val (.int p1), .val (.int p2), .val (.int (irm (p1 &&& (2147483647 : Int32)) (6 : Int32))), .val (.ref w), .val (.int (3 : Int32)), .val (.int (2 : Int32)), .val (.int (0 : Int32))] [(.int (0 : Int32)), (.int (0 : Int32))])) _
    refine XS.icmpNo X102.here hx rfl (hb hby at_137) rfl (teq (by decide : (0 : Int32) = (0 : Int32))).2 ?_
    show Steps p.tables e below (T102.setTop (mkF m 140 #[.val (.int p1), .val (.int p2), .val (.int (irm (p1 &&& (2147483647 : Int32)) (6 : Int32))), .val (.ref w), .val (.int (3 : Int32)), .val (.int (2 : Int32)), .val (.int (0 : Int32))] [])) _
    refine XS.iconst X102.here hx rfl (hb hby at_140) ?_
    show Steps p.tables e below (T102.setTop (mkF m 141 #[.val (.int p1), .val (.int p2), .val (.int (irm (p1 &&& (2147483647 : Int32)) (6 : Int32))), .val (.ref w), .val (.int (3 : Int32)), .val (.int (2 : Int32)), .val (.int (0 : Int32))] [(.int (1 : Int32))])) _
    refine XS.goto X102.here hx rfl (pc0 := 141) (pc' := 145) rfl (hb hby at_141) (by decide) (by decide) ?_
    show Steps p.tables e below (T102.setTop (mkF m 145 #[.val (.int p1), .val (.int p2), .val (.int (irm (p1 &&& (2147483647 : Int32)) (6 : Int32))), .val (.ref w), .val (.int (3 : Int32)), .val (.int (2 : Int32)), .val (.int (0 : Int32))] [(.int (1 : Int32))])) _
    exact retN X102 hx (t := .boolean) Bd.returns (by simp) (hb hby at_145) hr
  · show Q0 h0 n0 _ T102.heap _
    rw [e102]
    exact ⟨rfl, N102⟩
set_option maxRecDepth 65536 in
set_option maxHeartbeats 40000000 in
theorem rm0_5l (l : Launch) (Z : State) (a0 : Array Value) (hw : ∀ d ∈ tables_1, d.before a0 Z = true) (ws : List Jvm.Cond) (p1 p2 : Int32) (w : Addr) (h0 : Heap) (n0 : Nat) (O0 : Old Z n0 h0) (S : Sta Z Z.heap "com/example/plugroot/plugroot/sql/Comparison" "GREATER_OR_EQUAL" "Lcom/example/plugroot/plugroot/sql/Comparison;" (.ref w)) (E : Exa Z Z.heap w "com/example/plugroot/plugroot/sql/Comparison") (F_o : Fld Z Z.heap w "java/lang/Enum" "ordinal" "I" (.int 5)) (k0 : ¬ ((irm (p1 &&& (2147483647 : Int32)) (6 : Int32)) = 0)) (k1 : ¬ ((irm (p1 &&& (2147483647 : Int32)) (6 : Int32)) = 1)) (k2 : ¬ ((irm (p1 &&& (2147483647 : Int32)) (6 : Int32)) = 2)) (k3 : ¬ ((irm (p1 &&& (2147483647 : Int32)) (6 : Int32)) = 3)) (k4 : ¬ ((irm (p1 &&& (2147483647 : Int32)) (6 : Int32)) = 4)) (s1 : p2 < 0) :
    MetFree l x (head1 (Jvm.Cond.code x code maxLocals ret :: ws) room_1) (fun a_ U => a_ = #[(.int p1), (.int p2)] ∧ Z.Warmed39 U.vm ∧ U.heap = h0) (fun _ _ _ _ _ => True) (fun _ U o U' => ∃ v L, o = .returned v ∧ Q0 h0 n0 v U'.heap L ∧ FrameEnd U o U' L room_1.cells room_1.slots) := by
  refine MetFree.of_bodySF (plainFor_of_name pn_2) hisR ?_
  intro p e s m args below meth c s₁ Bd hml0 hP hK
  obtain ⟨rfl, hZ, hh⟩ := hP
  have hx := Bd.exec
  have hby := Bd.bytes
  have hml : c.maxLocals = 7 := hml0
  have hown : s.vm.findClass "com/example/plugroot/plugroot/sql/ComparisonHoldsPinLaw" = some m.cls := findClass_of_methodNamed Bd.named
  have hnm := (name_of_methodNamed Bd.named Bd.method).1
  have X0 : Stand p l e room_1 s m #[(.int p1), (.int p2)] below meth c s₁ [] 0 0 := Stand.of_body Bd
  have e0 : s₁.heap = h0 := by rw [← hh, Bd.state]; rfl
  have N0 := Fr.nil n0
  have pre0 : ∀ tg, Steps p.tables e below (s₁.setTop (mkF m 0 #[.val (.int p1), .val (.int p2), .unset, .unset, .unset, .unset, .unset] [])) tg → Steps p.tables e below (s₁.setTop (entryFrame m #[(.int p1), (.int p2)] maxLocals)) tg := fun tg kq => castTop (ef_II_7m m p1 p2) kq
  obtain ⟨T101, X101, e101, st101⟩ := getS2 X0 hx hZ hown (host := "") (Or.inl (wi hw 24 rfl)) Via.refl e0 (S.ext O0.2) (g := (mkF m 82 #[.val (.int p1), .val (.int p2), .val (.int (irm (p1 &&& (2147483647 : Int32)) (6 : Int32))), .unset, .unset, .unset, .unset] [])) rfl (hb hby at_82)
  obtain ⟨cq102, kq102, q102a, q102b, q102c⟩ := isOf hZ e101 (E.ext O0.2)
  obtain ⟨_, _, ⟨T102, L102, k102, n102⟩, -, X102, ⟨Lc102, hQ102, l102, y102, z102⟩, st102⟩ := X101.virtualBack hx (y := (⟨"com/example/plugroot/plugroot/sql/Comparison", "holds", "(I)Z"⟩ : MethodName)) (z := (⟨"com/example/plugroot/plugroot/sql/Comparison", "holds", "(I)Z"⟩ : MethodName)) hown (mvT hZ (wi hw 4 rfl)) (mvT hZ (wi hw 5 rfl)) (notFace_of_selects (args := #[]) (mvT hZ (wi hw 7 rfl))) (mvT hZ (wi hw 7 rfl)) (mvT hZ (wi hw 6 rfl)) (by decide) (backOf (W := 0) (rm1_5t l Z a0 hw [] w p2 h0 n0 O0 F_o E s1) hZ (wi hw 8 rfl) (wi hw 2 rfl) (by decide) (by decide)) q102a q102c (g := (mkF m 132 #[.val (.int p1), .val (.int p2), .val (.int (irm (p1 &&& (2147483647 : Int32)) (6 : Int32))), .val (.ref w), .val (.int (6 : Int32)), .val (.int (0 : Int32)), .val (.int (0 : Int32))] [(.int p2), (.ref w)])) rfl (by rw [hml]; rfl) (Steps.refl _) (argsL := [(.int p2)]) (rest := []) (lenOf pd_1 rfl) rfl (by show 2 * 0 + _ ≤ _; exact Nat.le_of_eq rfl) (hb hby at_132) (fun _ _ => ⟨rfl, e101, (by decide : 0 + 0 ≤ _), (by decide : 0 + 0 ≤ _)⟩)
  dsimp only [Pt.U, Pt.locs, Pt.cells, Pt.slots] at X102 l102 y102 z102 st102 hQ102
  subst l102 y102 z102
  obtain ⟨rfl, N102q, hh102⟩ := hQ102
  have e102 : T102.heap = h0 := hh102
  have N102 := Fr.app N0 N102q
  obtain ⟨fs, hr, hrun, hended, hW, hsame⟩ := X102.leave (v := some (.int (1 : Int32))) (fun h => by rw [Bd.returns] at h; cases h)
  refine ⟨_, _, pre0 _ ?_, hrun, hended, _, _, rfl, ?_, ⟨_, rfl⟩, hW, hsame.mono (by decide) (by decide)⟩
  · show Steps p.tables e below (s₁.setTop (mkF m 0 #[.val (.int p1), .val (.int p2), .unset, .unset, .unset, .unset, .unset] [])) _
    refine XS.iloadN X0.here hx rfl (hb hby at_0) rfl ?_
    show Steps p.tables e below (s₁.setTop (mkF m 1 #[.val (.int p1), .val (.int p2), .unset, .unset, .unset, .unset, .unset] [(.int p1)])) _
    refine X0.ldcInt hx hown (mvT hZ (wi hw 0 rfl)) (g := (mkF m 1 #[.val (.int p1), .val (.int p2), .unset, .unset, .unset, .unset, .unset] [(.int p1)])) rfl (hb hby at_1) _ ?_
    show Steps p.tables e below (s₁.setTop (mkF m 3 #[.val (.int p1), .val (.int p2), .unset, .unset, .unset, .unset, .unset] [(.int (2147483647 : Int32)), (.int p1)])) _
    refine XS.iand X0.here hx rfl (hb hby at_3) rfl ?_
    show Steps p.tables e below (s₁.setTop (mkF m 4 #[.val (.int p1), .val (.int p2), .unset, .unset, .unset, .unset, .unset] [(.int (p1 &&& (2147483647 : Int32)))])) _
    refine XS.bipush X0.here hx rfl (hb hby at_4) ?_
    show Steps p.tables e below (s₁.setTop (mkF m 6 #[.val (.int p1), .val (.int p2), .unset, .unset, .unset, .unset, .unset] [(.int (6 : Int32)), (.int (p1 &&& (2147483647 : Int32)))])) _
    refine XS.irem X0.here hx rfl (hb hby at_6) rfl (by decide) ?_
    show Steps p.tables e below (s₁.setTop (mkF m 7 #[.val (.int p1), .val (.int p2), .unset, .unset, .unset, .unset, .unset] [(.int (irm (p1 &&& (2147483647 : Int32)) (6 : Int32)))])) _
    refine XS.istoreN X0.here hx rfl (hb hby at_7) rfl (l' := #[.val (.int p1), .val (.int p2), .val (.int (irm (p1 &&& (2147483647 : Int32)) (6 : Int32))), .unset, .unset, .unset, .unset]) rfl ?_
    show Steps p.tables e below (s₁.setTop (mkF m 8 #[.val (.int p1), .val (.int p2), .val (.int (irm (p1 &&& (2147483647 : Int32)) (6 : Int32))), .unset, .unset, .unset, .unset] [])) _
    refine XS.iloadN X0.here hx rfl (hb hby at_8) rfl ?_
    show Steps p.tables e below (s₁.setTop (mkF m 9 #[.val (.int p1), .val (.int p2), .val (.int (irm (p1 &&& (2147483647 : Int32)) (6 : Int32))), .unset, .unset, .unset, .unset] [(.int (irm (p1 &&& (2147483647 : Int32)) (6 : Int32)))])) _
    refine XS.ifYes X0.here hx rfl (pc0 := 9) (pc' := 22) rfl (hb hby at_9) rfl ((if0 _ _).trans (feq k0).2) (by decide) (by decide) ?_
    show Steps p.tables e below (s₁.setTop (mkF m 22 #[.val (.int p1), .val (.int p2), .val (.int (irm (p1 &&& (2147483647 : Int32)) (6 : Int32))), .unset, .unset, .unset, .unset] [])) _
    refine XS.iloadN X0.here hx rfl (hb hby at_22) rfl ?_
    show Steps p.tables e below (s₁.setTop (mkF m 23 #[.val (.int p1), .val (.int p2), .val (.int (irm (p1 &&& (2147483647 : Int32)) (6 : Int32))), .unset, .unset, .unset, .unset] [(.int (irm (p1 &&& (2147483647 : Int32)) (6 : Int32)))])) _
    refine XS.iconst X0.here hx rfl (hb hby at_23) ?_
    show Steps p.tables e below (s₁.setTop (mkF m 24 #[.val (.int p1), .val (.int p2), .val (.int (irm (p1 &&& (2147483647 : Int32)) (6 : Int32))), .unset, .unset, .unset, .unset] [(.int (1 : Int32)), (.int (irm (p1 &&& (2147483647 : Int32)) (6 : Int32)))])) _
    refine XS.icmpYes X0.here hx rfl (pc0 := 24) (pc' := 37) rfl (hb hby at_24) rfl (feq k1).2 (by decide) (by decide) ?_
    show Steps p.tables e below (s₁.setTop (mkF m 37 #[.val (.int p1), .val (.int p2), .val (.int (irm (p1 &&& (2147483647 : Int32)) (6 : Int32))), .unset, .unset, .unset, .unset] [])) _
    refine XS.iloadN X0.here hx rfl (hb hby at_37) rfl ?_
    show Steps p.tables e below (s₁.setTop (mkF m 38 #[.val (.int p1), .val (.int p2), .val (.int (irm (p1 &&& (2147483647 : Int32)) (6 : Int32))), .unset, .unset, .unset, .unset] [(.int (irm (p1 &&& (2147483647 : Int32)) (6 : Int32)))])) _
    refine XS.iconst X0.here hx rfl (hb hby at_38) ?_
    show Steps p.tables e below (s₁.setTop (mkF m 39 #[.val (.int p1), .val (.int p2), .val (.int (irm (p1 &&& (2147483647 : Int32)) (6 : Int32))), .unset, .unset, .unset, .unset] [(.int (2 : Int32)), (.int (irm (p1 &&& (2147483647 : Int32)) (6 : Int32)))])) _
    refine XS.icmpYes X0.here hx rfl (pc0 := 39) (pc' := 52) rfl (hb hby at_39) rfl (feq k2).2 (by decide) (by decide) ?_
    show Steps p.tables e below (s₁.setTop (mkF m 52 #[.val (.int p1), .val (.int p2), .val (.int (irm (p1 &&& (2147483647 : Int32)) (6 : Int32))), .unset, .unset, .unset, .unset] [])) _
    refine XS.iloadN X0.here hx rfl (hb hby at_52) rfl ?_
    show Steps p.tables e below (s₁.setTop (mkF m 53 #[.val (.int p1), .val (.int p2), .val (.int (irm (p1 &&& (2147483647 : Int32)) (6 : Int32))), .unset, .unset, .unset, .unset] [(.int (irm (p1 &&& (2147483647 : Int32)) (6 : Int32)))])) _
    refine XS.iconst X0.here hx rfl (hb hby at_53) ?_
    show Steps p.tables e below (s₁.setTop (mkF m 54 #[.val (.int p1), .val (.int p2), .val (.int (irm (p1 &&& (2147483647 : Int32)) (6 : Int32))), .unset, .unset, .unset, .unset] [(.int (3 : Int32)), (.int (irm (p1 &&& (2147483647 : Int32)) (6 : Int32)))])) _
    refine XS.icmpYes X0.here hx rfl (pc0 := 54) (pc' := 67) rfl (hb hby at_54) rfl (feq k3).2 (by decide) (by decide) ?_
    show Steps p.tables e below (s₁.setTop (mkF m 67 #[.val (.int p1), .val (.int p2), .val (.int (irm (p1 &&& (2147483647 : Int32)) (6 : Int32))), .unset, .unset, .unset, .unset] [])) _
    refine XS.iloadN X0.here hx rfl (hb hby at_67) rfl ?_
    show Steps p.tables e below (s₁.setTop (mkF m 68 #[.val (.int p1), .val (.int p2), .val (.int (irm (p1 &&& (2147483647 : Int32)) (6 : Int32))), .unset, .unset, .unset, .unset] [(.int (irm (p1 &&& (2147483647 : Int32)) (6 : Int32)))])) _
    refine XS.iconst X0.here hx rfl (hb hby at_68) ?_
    show Steps p.tables e below (s₁.setTop (mkF m 69 #[.val (.int p1), .val (.int p2), .val (.int (irm (p1 &&& (2147483647 : Int32)) (6 : Int32))), .unset, .unset, .unset, .unset] [(.int (4 : Int32)), (.int (irm (p1 &&& (2147483647 : Int32)) (6 : Int32)))])) _
    refine XS.icmpYes X0.here hx rfl (pc0 := 69) (pc' := 82) rfl (hb hby at_69) rfl (feq k4).2 (by decide) (by decide) ?_
    show Steps p.tables e below (s₁.setTop (mkF m 82 #[.val (.int p1), .val (.int p2), .val (.int (irm (p1 &&& (2147483647 : Int32)) (6 : Int32))), .unset, .unset, .unset, .unset] [])) _
    refine st101 _ ?_
    show Steps p.tables e below (T101.setTop (mkF m 85 #[.val (.int p1), .val (.int p2), .val (.int (irm (p1 &&& (2147483647 : Int32)) (6 : Int32))), .unset, .unset, .unset, .unset] [(.ref w)])) _
    refine XS.astoreN X101.here hx rfl (hb hby at_85) rfl rfl (l' := #[.val (.int p1), .val (.int p2), .val (.int (irm (p1 &&& (2147483647 : Int32)) (6 : Int32))), .val (.ref w), .unset, .unset, .unset]) rfl ?_
    show Steps p.tables e below (T101.setTop (mkF m 86 #[.val (.int p1), .val (.int p2), .val (.int (irm (p1 &&& (2147483647 : Int32)) (6 : Int32))), .val (.ref w), .unset, .unset, .unset] [])) _
    refine XS.bipush X101.here hx rfl (hb hby at_86) ?_
    show Steps p.tables e below (T101.setTop (mkF m 88 #[.val (.int p1), .val (.int p2), .val (.int (irm (p1 &&& (2147483647 : Int32)) (6 : Int32))), .val (.ref w), .unset, .unset, .unset] [(.int (6 : Int32))])) _
    refine XS.istore X101.here hx rfl (hb hby at_88) rfl (l' := #[.val (.int p1), .val (.int p2), .val (.int (irm (p1 &&& (2147483647 : Int32)) (6 : Int32))), .val (.ref w), .val (.int (6 : Int32)), .unset, .unset]) rfl ?_
    show Steps p.tables e below (T101.setTop (mkF m 90 #[.val (.int p1), .val (.int p2), .val (.int (irm (p1 &&& (2147483647 : Int32)) (6 : Int32))), .val (.ref w), .val (.int (6 : Int32)), .unset, .unset] [])) _
    refine XS.iloadN X101.here hx rfl (hb hby at_90) rfl ?_
    show Steps p.tables e below (T101.setTop (mkF m 91 #[.val (.int p1), .val (.int p2), .val (.int (irm (p1 &&& (2147483647 : Int32)) (6 : Int32))), .val (.ref w), .val (.int (6 : Int32)), .unset, .unset] [(.int p2)])) _
    refine XS.ifNo X101.here hx rfl (hb hby at_91) rfl ((if0 _ _).trans (tlt s1).2.1) ?_
    show Steps p.tables e below (T101.setTop (mkF m 94 #[.val (.int p1), .val (.int p2), .val (.int (irm (p1 &&& (2147483647 : Int32)) (6 : Int32))), .val (.ref w), .val (.int (6 : Int32)), .unset, .unset] [])) _
    refine XS.iconst X101.here hx rfl (hb hby at_94) ?_
    show Steps p.tables e below (T101.setTop (mkF m 95 #[.val (.int p1), .val (.int p2), .val (.int (irm (p1 &&& (2147483647 : Int32)) (6 : Int32))), .val (.ref w), .val (.int (6 : Int32)), .unset, .unset] [(.int (0 : Int32))])) _
    refine XS.istore X101.here hx rfl (hb hby at_95) rfl (l' := #[.val (.int p1), .val (.int p2), .val (.int (irm (p1 &&& (2147483647 : Int32)) (6 : Int32))), .val (.ref w), .val (.int (6 : Int32)), .val (.int (0 : Int32)), .unset]) rfl ?_
    show Steps p.tables e below (T101.setTop (mkF m 97 #[.val (.int p1), .val (.int p2), .val (.int (irm (p1 &&& (2147483647 : Int32)) (6 : Int32))), .val (.ref w), .val (.int (6 : Int32)), .val (.int (0 : Int32)), .unset] [])) _
    refine XS.goto X101.here hx rfl (pc0 := 97) (pc' := 113) rfl (hb hby at_97) (by decide) (by decide) ?_
    show Steps p.tables e below (T101.setTop (mkF m 113 #[.val (.int p1), .val (.int p2), .val (.int (irm (p1 &&& (2147483647 : Int32)) (6 : Int32))), .val (.ref w), .val (.int (6 : Int32)), .val (.int (0 : Int32)), .unset] [])) _
    refine XS.iload X101.here hx rfl (hb hby at_113) rfl ?_
    show Steps p.tables e below (T101.setTop (mkF m 115 #[.val (.int p1), .val (.int p2), .val (.int (irm (p1 &&& (2147483647 : Int32)) (6 : Int32))), .val (.ref w), .val (.int (6 : Int32)), .val (.int (0 : Int32)), .unset] [(.int (6 : Int32))])) _
    refine XS.iload X101.here hx rfl (hb hby at_115) rfl ?_
    show Steps p.tables e below (T101.setTop (mkF m 117 #[.val (.int p1), .val (.int p2), .val (.int (irm (p1 &&& (2147483647 : Int32)) (6 : Int32))), .val (.ref w), .val (.int (6 : Int32)), .val (.int (0 : Int32)), .unset] [(.int (0 : Int32)), (.int (6 : Int32))])) _
    refine XS.ishr X101.here hx rfl (hb hby at_117) rfl ?_
    show Steps p.tables e below (T101.setTop (mkF m 118 #[.val (.int p1), .val (.int p2), .val (.int (irm (p1 &&& (2147483647 : Int32)) (6 : Int32))), .val (.ref w), .val (.int (6 : Int32)), .val (.int (0 : Int32)), .unset] [(.int ((6 : Int32) >>> ((0 : Int32) &&& 31)))])) _
    refine XS.iconst X101.here hx rfl (hb hby at_118) ?_
    show Steps p.tables e below (T101.setTop (mkF m 119 #[.val (.int p1), .val (.int p2), .val (.int (irm (p1 &&& (2147483647 : Int32)) (6 : Int32))), .val (.ref w), .val (.int (6 : Int32)), .val (.int (0 : Int32)), .unset] [(.int (1 : Int32)), (.int ((6 : Int32) >>> ((0 : Int32) &&& 31)))])) _
    refine XS.iand X101.here hx rfl (hb hby at_119) rfl ?_
    show Steps p.tables e below (T101.setTop (mkF m 120 #[.val (.int p1), .val (.int p2), .val (.int (irm (p1 &&& (2147483647 : Int32)) (6 : Int32))), .val (.ref w), .val (.int (6 : Int32)), .val (.int (0 : Int32)), .unset] [(.int (((6 : Int32) >>> ((0 : Int32) &&& 31)) &&& (1 : Int32)))])) _
    refine XS.ifYes X101.here hx rfl (pc0 := 120) (pc' := 127) rfl (hb hby at_120) rfl ((if0 _ _).trans (teq (by decide : (((6 : Int32) >>> ((0 : Int32) &&& 31)) &&& (1 : Int32)) = (0 : Int32))).1) (by decide) (by decide) ?_
    show Steps p.tables e below (T101.setTop (mkF m 127 #[.val (.int p1), .val (.int p2), .val (.int (irm (p1 &&& (2147483647 : Int32)) (6 : Int32))), .val (.ref w), .val (.int (6 : Int32)), .val (.int (0 : Int32)), .unset] [])) _
    refine XS.iconst X101.here hx rfl (hb hby at_127) ?_
    show Steps p.tables e below (T101.setTop (mkF m 128 #[.val (.int p1), .val (.int p2), .val (.int (irm (p1 &&& (2147483647 : Int32)) (6 : Int32))), .val (.ref w), .val (.int (6 : Int32)), .val (.int (0 : Int32)), .unset] [(.int (0 : Int32))])) _
    refine XS.istore X101.here hx rfl (hb hby at_128) rfl (l' := #[.val (.int p1), .val (.int p2), .val (.int (irm (p1 &&& (2147483647 : Int32)) (6 : Int32))), .val (.ref w), .val (.int (6 : Int32)), .val (.int (0 : Int32)), .val (.int (0 : Int32))]) rfl ?_
    show Steps p.tables e below (T101.setTop (mkF m 130 #[.val (.int p1), .val (.int p2), .val (.int (irm (p1 &&& (2147483647 : Int32)) (6 : Int32))), .val (.ref w), .val (.int (6 : Int32)), .val (.int (0 : Int32)), .val (.int (0 : Int32))] [])) _
    refine XS.aloadN X101.here hx rfl (hb hby at_130) rfl rfl ?_
    show Steps p.tables e below (T101.setTop (mkF m 131 #[.val (.int p1), .val (.int p2), .val (.int (irm (p1 &&& (2147483647 : Int32)) (6 : Int32))), .val (.ref w), .val (.int (6 : Int32)), .val (.int (0 : Int32)), .val (.int (0 : Int32))] [(.ref w)])) _
    refine XS.iloadN X101.here hx rfl (hb hby at_131) rfl ?_
    show Steps p.tables e below (T101.setTop (mkF m 132 #[.val (.int p1), .val (.int p2), .val (.int (irm (p1 &&& (2147483647 : Int32)) (6 : Int32))), .val (.ref w), .val (.int (6 : Int32)), .val (.int (0 : Int32)), .val (.int (0 : Int32))] [(.int p2), (.ref w)])) _
    refine st102.trans ?_
    show Steps p.tables e below (T102.setTop (mkF m 135 #[.val (.int p1), .val (.int p2), .val (.int (irm (p1 &&& (2147483647 : Int32)) (6 : Int32))), .val (.ref w), .val (.int (6 : Int32)), .val (.int (0 : Int32)), .val (.int (0 : Int32))] [(.int (0 : Int32))])) _
    refine XS.iload X102.here hx rfl (hb hby at_135) rfl ?_
    show Steps p.tables e below (T102.setTop (mkF m 137 #[.val (.int p1), .val (.int p2), .val (.int (irm (p1 &&& (2147483647 : Int32)) (6 : Int32))), .val (.ref w), .val (.int (6 : Int32)), .val (.int (0 : Int32)), .val (.int (0 : Int32))] [(.int (0 : Int32)), (.int (0 : Int32))])) _
    refine XS.icmpNo X102.here hx rfl (hb hby at_137) rfl (teq (by decide : (0 : Int32) = (0 : Int32))).2 ?_
    show Steps p.tables e below (T102.setTop (mkF m 140 #[.val (.int p1), .val (.int p2), .val (.int (irm (p1 &&& (2147483647 : Int32)) (6 : Int32))), .val (.ref w), .val (.int (6 : Int32)), .val (.int (0 : Int32)), .val (.int (0 : Int32))] [])) _
    refine XS.iconst X102.here hx rfl (hb hby at_140) ?_
    show Steps p.tables e below (T102.setTop (mkF m 141 #[.val (.int p1), .val (.int p2), .val (.int (irm (p1 &&& (2147483647 : Int32)) (6 : Int32))), .val (.ref w), .val (.int (6 : Int32)), .val (.int (0 : Int32)), .val (.int (0 : Int32))] [(.int (1 : Int32))])) _
    refine XS.goto X102.here hx rfl (pc0 := 141) (pc' := 145) rfl (hb hby at_141) (by decide) (by decide) ?_
    show Steps p.tables e below (T102.setTop (mkF m 145 #[.val (.int p1), .val (.int p2), .val (.int (irm (p1 &&& (2147483647 : Int32)) (6 : Int32))), .val (.ref w), .val (.int (6 : Int32)), .val (.int (0 : Int32)), .val (.int (0 : Int32))] [(.int (1 : Int32))])) _
    exact retN X102 hx (t := .boolean) Bd.returns (by simp) (hb hby at_145) hr
  · show Q0 h0 n0 _ T102.heap _
    rw [e102]
    exact ⟨rfl, N102⟩
set_option maxRecDepth 65536 in
set_option maxHeartbeats 40000000 in
theorem rm0_5e (l : Launch) (Z : State) (a0 : Array Value) (hw : ∀ d ∈ tables_1, d.before a0 Z = true) (ws : List Jvm.Cond) (p1 p2 : Int32) (w : Addr) (h0 : Heap) (n0 : Nat) (O0 : Old Z n0 h0) (S : Sta Z Z.heap "com/example/plugroot/plugroot/sql/Comparison" "GREATER_OR_EQUAL" "Lcom/example/plugroot/plugroot/sql/Comparison;" (.ref w)) (E : Exa Z Z.heap w "com/example/plugroot/plugroot/sql/Comparison") (F_o : Fld Z Z.heap w "java/lang/Enum" "ordinal" "I" (.int 5)) (k0 : ¬ ((irm (p1 &&& (2147483647 : Int32)) (6 : Int32)) = 0)) (k1 : ¬ ((irm (p1 &&& (2147483647 : Int32)) (6 : Int32)) = 1)) (k2 : ¬ ((irm (p1 &&& (2147483647 : Int32)) (6 : Int32)) = 2)) (k3 : ¬ ((irm (p1 &&& (2147483647 : Int32)) (6 : Int32)) = 3)) (k4 : ¬ ((irm (p1 &&& (2147483647 : Int32)) (6 : Int32)) = 4)) (s1 : ¬ (p2 < 0)) (s2 : p2 = 0) :
    MetFree l x (head1 (Jvm.Cond.code x code maxLocals ret :: ws) room_1) (fun a_ U => a_ = #[(.int p1), (.int p2)] ∧ Z.Warmed39 U.vm ∧ U.heap = h0) (fun _ _ _ _ _ => True) (fun _ U o U' => ∃ v L, o = .returned v ∧ Q0 h0 n0 v U'.heap L ∧ FrameEnd U o U' L room_1.cells room_1.slots) := by
  refine MetFree.of_bodySF (plainFor_of_name pn_2) hisR ?_
  intro p e s m args below meth c s₁ Bd hml0 hP hK
  obtain ⟨rfl, hZ, hh⟩ := hP
  have hx := Bd.exec
  have hby := Bd.bytes
  have hml : c.maxLocals = 7 := hml0
  have hown : s.vm.findClass "com/example/plugroot/plugroot/sql/ComparisonHoldsPinLaw" = some m.cls := findClass_of_methodNamed Bd.named
  have hnm := (name_of_methodNamed Bd.named Bd.method).1
  have X0 : Stand p l e room_1 s m #[(.int p1), (.int p2)] below meth c s₁ [] 0 0 := Stand.of_body Bd
  have e0 : s₁.heap = h0 := by rw [← hh, Bd.state]; rfl
  have N0 := Fr.nil n0
  have pre0 : ∀ tg, Steps p.tables e below (s₁.setTop (mkF m 0 #[.val (.int p1), .val (.int p2), .unset, .unset, .unset, .unset, .unset] [])) tg → Steps p.tables e below (s₁.setTop (entryFrame m #[(.int p1), (.int p2)] maxLocals)) tg := fun tg kq => castTop (ef_II_7m m p1 p2) kq
  obtain ⟨T101, X101, e101, st101⟩ := getS2 X0 hx hZ hown (host := "") (Or.inl (wi hw 24 rfl)) Via.refl e0 (S.ext O0.2) (g := (mkF m 82 #[.val (.int p1), .val (.int p2), .val (.int (irm (p1 &&& (2147483647 : Int32)) (6 : Int32))), .unset, .unset, .unset, .unset] [])) rfl (hb hby at_82)
  obtain ⟨cq102, kq102, q102a, q102b, q102c⟩ := isOf hZ e101 (E.ext O0.2)
  obtain ⟨_, _, ⟨T102, L102, k102, n102⟩, -, X102, ⟨Lc102, hQ102, l102, y102, z102⟩, st102⟩ := X101.virtualBack hx (y := (⟨"com/example/plugroot/plugroot/sql/Comparison", "holds", "(I)Z"⟩ : MethodName)) (z := (⟨"com/example/plugroot/plugroot/sql/Comparison", "holds", "(I)Z"⟩ : MethodName)) hown (mvT hZ (wi hw 4 rfl)) (mvT hZ (wi hw 5 rfl)) (notFace_of_selects (args := #[]) (mvT hZ (wi hw 7 rfl))) (mvT hZ (wi hw 7 rfl)) (mvT hZ (wi hw 6 rfl)) (by decide) (backOf (W := 0) (rm1_5f l Z a0 hw [] w p2 h0 n0 O0 F_o E s1) hZ (wi hw 8 rfl) (wi hw 2 rfl) (by decide) (by decide)) q102a q102c (g := (mkF m 132 #[.val (.int p1), .val (.int p2), .val (.int (irm (p1 &&& (2147483647 : Int32)) (6 : Int32))), .val (.ref w), .val (.int (6 : Int32)), .val (.int (1 : Int32)), .val (.int (1 : Int32))] [(.int p2), (.ref w)])) rfl (by rw [hml]; rfl) (Steps.refl _) (argsL := [(.int p2)]) (rest := []) (lenOf pd_1 rfl) rfl (by show 2 * 0 + _ ≤ _; exact Nat.le_of_eq rfl) (hb hby at_132) (fun _ _ => ⟨rfl, e101, (by decide : 0 + 0 ≤ _), (by decide : 0 + 0 ≤ _)⟩)
  dsimp only [Pt.U, Pt.locs, Pt.cells, Pt.slots] at X102 l102 y102 z102 st102 hQ102
  subst l102 y102 z102
  obtain ⟨rfl, N102q, hh102⟩ := hQ102
  have e102 : T102.heap = h0 := hh102
  have N102 := Fr.app N0 N102q
  obtain ⟨fs, hr, hrun, hended, hW, hsame⟩ := X102.leave (v := some (.int (1 : Int32))) (fun h => by rw [Bd.returns] at h; cases h)
  refine ⟨_, _, pre0 _ ?_, hrun, hended, _, _, rfl, ?_, ⟨_, rfl⟩, hW, hsame.mono (by decide) (by decide)⟩
  · show Steps p.tables e below (s₁.setTop (mkF m 0 #[.val (.int p1), .val (.int p2), .unset, .unset, .unset, .unset, .unset] [])) _
    refine XS.iloadN X0.here hx rfl (hb hby at_0) rfl ?_
    show Steps p.tables e below (s₁.setTop (mkF m 1 #[.val (.int p1), .val (.int p2), .unset, .unset, .unset, .unset, .unset] [(.int p1)])) _
    refine X0.ldcInt hx hown (mvT hZ (wi hw 0 rfl)) (g := (mkF m 1 #[.val (.int p1), .val (.int p2), .unset, .unset, .unset, .unset, .unset] [(.int p1)])) rfl (hb hby at_1) _ ?_
    show Steps p.tables e below (s₁.setTop (mkF m 3 #[.val (.int p1), .val (.int p2), .unset, .unset, .unset, .unset, .unset] [(.int (2147483647 : Int32)), (.int p1)])) _
    refine XS.iand X0.here hx rfl (hb hby at_3) rfl ?_
    show Steps p.tables e below (s₁.setTop (mkF m 4 #[.val (.int p1), .val (.int p2), .unset, .unset, .unset, .unset, .unset] [(.int (p1 &&& (2147483647 : Int32)))])) _
    refine XS.bipush X0.here hx rfl (hb hby at_4) ?_
    show Steps p.tables e below (s₁.setTop (mkF m 6 #[.val (.int p1), .val (.int p2), .unset, .unset, .unset, .unset, .unset] [(.int (6 : Int32)), (.int (p1 &&& (2147483647 : Int32)))])) _
    refine XS.irem X0.here hx rfl (hb hby at_6) rfl (by decide) ?_
    show Steps p.tables e below (s₁.setTop (mkF m 7 #[.val (.int p1), .val (.int p2), .unset, .unset, .unset, .unset, .unset] [(.int (irm (p1 &&& (2147483647 : Int32)) (6 : Int32)))])) _
    refine XS.istoreN X0.here hx rfl (hb hby at_7) rfl (l' := #[.val (.int p1), .val (.int p2), .val (.int (irm (p1 &&& (2147483647 : Int32)) (6 : Int32))), .unset, .unset, .unset, .unset]) rfl ?_
    show Steps p.tables e below (s₁.setTop (mkF m 8 #[.val (.int p1), .val (.int p2), .val (.int (irm (p1 &&& (2147483647 : Int32)) (6 : Int32))), .unset, .unset, .unset, .unset] [])) _
    refine XS.iloadN X0.here hx rfl (hb hby at_8) rfl ?_
    show Steps p.tables e below (s₁.setTop (mkF m 9 #[.val (.int p1), .val (.int p2), .val (.int (irm (p1 &&& (2147483647 : Int32)) (6 : Int32))), .unset, .unset, .unset, .unset] [(.int (irm (p1 &&& (2147483647 : Int32)) (6 : Int32)))])) _
    refine XS.ifYes X0.here hx rfl (pc0 := 9) (pc' := 22) rfl (hb hby at_9) rfl ((if0 _ _).trans (feq k0).2) (by decide) (by decide) ?_
    show Steps p.tables e below (s₁.setTop (mkF m 22 #[.val (.int p1), .val (.int p2), .val (.int (irm (p1 &&& (2147483647 : Int32)) (6 : Int32))), .unset, .unset, .unset, .unset] [])) _
    refine XS.iloadN X0.here hx rfl (hb hby at_22) rfl ?_
    show Steps p.tables e below (s₁.setTop (mkF m 23 #[.val (.int p1), .val (.int p2), .val (.int (irm (p1 &&& (2147483647 : Int32)) (6 : Int32))), .unset, .unset, .unset, .unset] [(.int (irm (p1 &&& (2147483647 : Int32)) (6 : Int32)))])) _
    refine XS.iconst X0.here hx rfl (hb hby at_23) ?_
    show Steps p.tables e below (s₁.setTop (mkF m 24 #[.val (.int p1), .val (.int p2), .val (.int (irm (p1 &&& (2147483647 : Int32)) (6 : Int32))), .unset, .unset, .unset, .unset] [(.int (1 : Int32)), (.int (irm (p1 &&& (2147483647 : Int32)) (6 : Int32)))])) _
    refine XS.icmpYes X0.here hx rfl (pc0 := 24) (pc' := 37) rfl (hb hby at_24) rfl (feq k1).2 (by decide) (by decide) ?_
    show Steps p.tables e below (s₁.setTop (mkF m 37 #[.val (.int p1), .val (.int p2), .val (.int (irm (p1 &&& (2147483647 : Int32)) (6 : Int32))), .unset, .unset, .unset, .unset] [])) _
    refine XS.iloadN X0.here hx rfl (hb hby at_37) rfl ?_
    show Steps p.tables e below (s₁.setTop (mkF m 38 #[.val (.int p1), .val (.int p2), .val (.int (irm (p1 &&& (2147483647 : Int32)) (6 : Int32))), .unset, .unset, .unset, .unset] [(.int (irm (p1 &&& (2147483647 : Int32)) (6 : Int32)))])) _
    refine XS.iconst X0.here hx rfl (hb hby at_38) ?_
    show Steps p.tables e below (s₁.setTop (mkF m 39 #[.val (.int p1), .val (.int p2), .val (.int (irm (p1 &&& (2147483647 : Int32)) (6 : Int32))), .unset, .unset, .unset, .unset] [(.int (2 : Int32)), (.int (irm (p1 &&& (2147483647 : Int32)) (6 : Int32)))])) _
    refine XS.icmpYes X0.here hx rfl (pc0 := 39) (pc' := 52) rfl (hb hby at_39) rfl (feq k2).2 (by decide) (by decide) ?_
    show Steps p.tables e below (s₁.setTop (mkF m 52 #[.val (.int p1), .val (.int p2), .val (.int (irm (p1 &&& (2147483647 : Int32)) (6 : Int32))), .unset, .unset, .unset, .unset] [])) _
    refine XS.iloadN X0.here hx rfl (hb hby at_52) rfl ?_
    show Steps p.tables e below (s₁.setTop (mkF m 53 #[.val (.int p1), .val (.int p2), .val (.int (irm (p1 &&& (2147483647 : Int32)) (6 : Int32))), .unset, .unset, .unset, .unset] [(.int (irm (p1 &&& (2147483647 : Int32)) (6 : Int32)))])) _
    refine XS.iconst X0.here hx rfl (hb hby at_53) ?_
    show Steps p.tables e below (s₁.setTop (mkF m 54 #[.val (.int p1), .val (.int p2), .val (.int (irm (p1 &&& (2147483647 : Int32)) (6 : Int32))), .unset, .unset, .unset, .unset] [(.int (3 : Int32)), (.int (irm (p1 &&& (2147483647 : Int32)) (6 : Int32)))])) _
    refine XS.icmpYes X0.here hx rfl (pc0 := 54) (pc' := 67) rfl (hb hby at_54) rfl (feq k3).2 (by decide) (by decide) ?_
    show Steps p.tables e below (s₁.setTop (mkF m 67 #[.val (.int p1), .val (.int p2), .val (.int (irm (p1 &&& (2147483647 : Int32)) (6 : Int32))), .unset, .unset, .unset, .unset] [])) _
    refine XS.iloadN X0.here hx rfl (hb hby at_67) rfl ?_
    show Steps p.tables e below (s₁.setTop (mkF m 68 #[.val (.int p1), .val (.int p2), .val (.int (irm (p1 &&& (2147483647 : Int32)) (6 : Int32))), .unset, .unset, .unset, .unset] [(.int (irm (p1 &&& (2147483647 : Int32)) (6 : Int32)))])) _
    refine XS.iconst X0.here hx rfl (hb hby at_68) ?_
    show Steps p.tables e below (s₁.setTop (mkF m 69 #[.val (.int p1), .val (.int p2), .val (.int (irm (p1 &&& (2147483647 : Int32)) (6 : Int32))), .unset, .unset, .unset, .unset] [(.int (4 : Int32)), (.int (irm (p1 &&& (2147483647 : Int32)) (6 : Int32)))])) _
    refine XS.icmpYes X0.here hx rfl (pc0 := 69) (pc' := 82) rfl (hb hby at_69) rfl (feq k4).2 (by decide) (by decide) ?_
    show Steps p.tables e below (s₁.setTop (mkF m 82 #[.val (.int p1), .val (.int p2), .val (.int (irm (p1 &&& (2147483647 : Int32)) (6 : Int32))), .unset, .unset, .unset, .unset] [])) _
    refine st101 _ ?_
    show Steps p.tables e below (T101.setTop (mkF m 85 #[.val (.int p1), .val (.int p2), .val (.int (irm (p1 &&& (2147483647 : Int32)) (6 : Int32))), .unset, .unset, .unset, .unset] [(.ref w)])) _
    refine XS.astoreN X101.here hx rfl (hb hby at_85) rfl rfl (l' := #[.val (.int p1), .val (.int p2), .val (.int (irm (p1 &&& (2147483647 : Int32)) (6 : Int32))), .val (.ref w), .unset, .unset, .unset]) rfl ?_
    show Steps p.tables e below (T101.setTop (mkF m 86 #[.val (.int p1), .val (.int p2), .val (.int (irm (p1 &&& (2147483647 : Int32)) (6 : Int32))), .val (.ref w), .unset, .unset, .unset] [])) _
    refine XS.bipush X101.here hx rfl (hb hby at_86) ?_
    show Steps p.tables e below (T101.setTop (mkF m 88 #[.val (.int p1), .val (.int p2), .val (.int (irm (p1 &&& (2147483647 : Int32)) (6 : Int32))), .val (.ref w), .unset, .unset, .unset] [(.int (6 : Int32))])) _
    refine XS.istore X101.here hx rfl (hb hby at_88) rfl (l' := #[.val (.int p1), .val (.int p2), .val (.int (irm (p1 &&& (2147483647 : Int32)) (6 : Int32))), .val (.ref w), .val (.int (6 : Int32)), .unset, .unset]) rfl ?_
    show Steps p.tables e below (T101.setTop (mkF m 90 #[.val (.int p1), .val (.int p2), .val (.int (irm (p1 &&& (2147483647 : Int32)) (6 : Int32))), .val (.ref w), .val (.int (6 : Int32)), .unset, .unset] [])) _
    refine XS.iloadN X101.here hx rfl (hb hby at_90) rfl ?_
    show Steps p.tables e below (T101.setTop (mkF m 91 #[.val (.int p1), .val (.int p2), .val (.int (irm (p1 &&& (2147483647 : Int32)) (6 : Int32))), .val (.ref w), .val (.int (6 : Int32)), .unset, .unset] [(.int p2)])) _
    refine XS.ifYes X101.here hx rfl (pc0 := 91) (pc' := 100) rfl (hb hby at_91) rfl ((if0 _ _).trans (flt s1).2.1) (by decide) (by decide) ?_
    show Steps p.tables e below (T101.setTop (mkF m 100 #[.val (.int p1), .val (.int p2), .val (.int (irm (p1 &&& (2147483647 : Int32)) (6 : Int32))), .val (.ref w), .val (.int (6 : Int32)), .unset, .unset] [])) _
    refine XS.iloadN X101.here hx rfl (hb hby at_100) rfl ?_
    show Steps p.tables e below (T101.setTop (mkF m 101 #[.val (.int p1), .val (.int p2), .val (.int (irm (p1 &&& (2147483647 : Int32)) (6 : Int32))), .val (.ref w), .val (.int (6 : Int32)), .unset, .unset] [(.int p2)])) _
    refine XS.ifNo X101.here hx rfl (hb hby at_101) rfl ((if0 _ _).trans (teq s2).2) ?_
    show Steps p.tables e below (T101.setTop (mkF m 104 #[.val (.int p1), .val (.int p2), .val (.int (irm (p1 &&& (2147483647 : Int32)) (6 : Int32))), .val (.ref w), .val (.int (6 : Int32)), .unset, .unset] [])) _
    refine XS.iconst X101.here hx rfl (hb hby at_104) ?_
    show Steps p.tables e below (T101.setTop (mkF m 105 #[.val (.int p1), .val (.int p2), .val (.int (irm (p1 &&& (2147483647 : Int32)) (6 : Int32))), .val (.ref w), .val (.int (6 : Int32)), .unset, .unset] [(.int (1 : Int32))])) _
    refine XS.istore X101.here hx rfl (hb hby at_105) rfl (l' := #[.val (.int p1), .val (.int p2), .val (.int (irm (p1 &&& (2147483647 : Int32)) (6 : Int32))), .val (.ref w), .val (.int (6 : Int32)), .val (.int (1 : Int32)), .unset]) rfl ?_
    show Steps p.tables e below (T101.setTop (mkF m 107 #[.val (.int p1), .val (.int p2), .val (.int (irm (p1 &&& (2147483647 : Int32)) (6 : Int32))), .val (.ref w), .val (.int (6 : Int32)), .val (.int (1 : Int32)), .unset] [])) _
    refine XS.goto X101.here hx rfl (pc0 := 107) (pc' := 113) rfl (hb hby at_107) (by decide) (by decide) ?_
    show Steps p.tables e below (T101.setTop (mkF m 113 #[.val (.int p1), .val (.int p2), .val (.int (irm (p1 &&& (2147483647 : Int32)) (6 : Int32))), .val (.ref w), .val (.int (6 : Int32)), .val (.int (1 : Int32)), .unset] [])) _
    refine XS.iload X101.here hx rfl (hb hby at_113) rfl ?_
    show Steps p.tables e below (T101.setTop (mkF m 115 #[.val (.int p1), .val (.int p2), .val (.int (irm (p1 &&& (2147483647 : Int32)) (6 : Int32))), .val (.ref w), .val (.int (6 : Int32)), .val (.int (1 : Int32)), .unset] [(.int (6 : Int32))])) _
    refine XS.iload X101.here hx rfl (hb hby at_115) rfl ?_
    show Steps p.tables e below (T101.setTop (mkF m 117 #[.val (.int p1), .val (.int p2), .val (.int (irm (p1 &&& (2147483647 : Int32)) (6 : Int32))), .val (.ref w), .val (.int (6 : Int32)), .val (.int (1 : Int32)), .unset] [(.int (1 : Int32)), (.int (6 : Int32))])) _
    refine XS.ishr X101.here hx rfl (hb hby at_117) rfl ?_
    show Steps p.tables e below (T101.setTop (mkF m 118 #[.val (.int p1), .val (.int p2), .val (.int (irm (p1 &&& (2147483647 : Int32)) (6 : Int32))), .val (.ref w), .val (.int (6 : Int32)), .val (.int (1 : Int32)), .unset] [(.int ((6 : Int32) >>> ((1 : Int32) &&& 31)))])) _
    refine XS.iconst X101.here hx rfl (hb hby at_118) ?_
    show Steps p.tables e below (T101.setTop (mkF m 119 #[.val (.int p1), .val (.int p2), .val (.int (irm (p1 &&& (2147483647 : Int32)) (6 : Int32))), .val (.ref w), .val (.int (6 : Int32)), .val (.int (1 : Int32)), .unset] [(.int (1 : Int32)), (.int ((6 : Int32) >>> ((1 : Int32) &&& 31)))])) _
    refine XS.iand X101.here hx rfl (hb hby at_119) rfl ?_
    show Steps p.tables e below (T101.setTop (mkF m 120 #[.val (.int p1), .val (.int p2), .val (.int (irm (p1 &&& (2147483647 : Int32)) (6 : Int32))), .val (.ref w), .val (.int (6 : Int32)), .val (.int (1 : Int32)), .unset] [(.int (((6 : Int32) >>> ((1 : Int32) &&& 31)) &&& (1 : Int32)))])) _
    refine XS.ifNo X101.here hx rfl (hb hby at_120) rfl ((if0 _ _).trans (feq (by decide : ¬ ((((6 : Int32) >>> ((1 : Int32) &&& 31)) &&& (1 : Int32)) = (0 : Int32)))).1) ?_
    show Steps p.tables e below (T101.setTop (mkF m 123 #[.val (.int p1), .val (.int p2), .val (.int (irm (p1 &&& (2147483647 : Int32)) (6 : Int32))), .val (.ref w), .val (.int (6 : Int32)), .val (.int (1 : Int32)), .unset] [])) _
    refine XS.iconst X101.here hx rfl (hb hby at_123) ?_
    show Steps p.tables e below (T101.setTop (mkF m 124 #[.val (.int p1), .val (.int p2), .val (.int (irm (p1 &&& (2147483647 : Int32)) (6 : Int32))), .val (.ref w), .val (.int (6 : Int32)), .val (.int (1 : Int32)), .unset] [(.int (1 : Int32))])) _
    refine XS.goto X101.here hx rfl (pc0 := 124) (pc' := 128) rfl (hb hby at_124) (by decide) (by decide) ?_
    show Steps p.tables e below (T101.setTop (mkF m 128 #[.val (.int p1), .val (.int p2), .val (.int (irm (p1 &&& (2147483647 : Int32)) (6 : Int32))), .val (.ref w), .val (.int (6 : Int32)), .val (.int (1 : Int32)), .unset] [(.int (1 : Int32))])) _
    refine XS.istore X101.here hx rfl (hb hby at_128) rfl (l' := #[.val (.int p1), .val (.int p2), .val (.int (irm (p1 &&& (2147483647 : Int32)) (6 : Int32))), .val (.ref w), .val (.int (6 : Int32)), .val (.int (1 : Int32)), .val (.int (1 : Int32))]) rfl ?_
    show Steps p.tables e below (T101.setTop (mkF m 130 #[.val (.int p1), .val (.int p2), .val (.int (irm (p1 &&& (2147483647 : Int32)) (6 : Int32))), .val (.ref w), .val (.int (6 : Int32)), .val (.int (1 : Int32)), .val (.int (1 : Int32))] [])) _
    refine XS.aloadN X101.here hx rfl (hb hby at_130) rfl rfl ?_
    show Steps p.tables e below (T101.setTop (mkF m 131 #[.val (.int p1), .val (.int p2), .val (.int (irm (p1 &&& (2147483647 : Int32)) (6 : Int32))), .val (.ref w), .val (.int (6 : Int32)), .val (.int (1 : Int32)), .val (.int (1 : Int32))] [(.ref w)])) _
    refine XS.iloadN X101.here hx rfl (hb hby at_131) rfl ?_
    show Steps p.tables e below (T101.setTop (mkF m 132 #[.val (.int p1), .val (.int p2), .val (.int (irm (p1 &&& (2147483647 : Int32)) (6 : Int32))), .val (.ref w), .val (.int (6 : Int32)), .val (.int (1 : Int32)), .val (.int (1 : Int32))] [(.int p2), (.ref w)])) _
    refine st102.trans ?_
    show Steps p.tables e below (T102.setTop (mkF m 135 #[.val (.int p1), .val (.int p2), .val (.int (irm (p1 &&& (2147483647 : Int32)) (6 : Int32))), .val (.ref w), .val (.int (6 : Int32)), .val (.int (1 : Int32)), .val (.int (1 : Int32))] [(.int (1 : Int32))])) _
    refine XS.iload X102.here hx rfl (hb hby at_135) rfl ?_
    show Steps p.tables e below (T102.setTop (mkF m 137 #[.val (.int p1), .val (.int p2), .val (.int (irm (p1 &&& (2147483647 : Int32)) (6 : Int32))), .val (.ref w), .val (.int (6 : Int32)), .val (.int (1 : Int32)), .val (.int (1 : Int32))] [(.int (1 : Int32)), (.int (1 : Int32))])) _
    refine XS.icmpNo X102.here hx rfl (hb hby at_137) rfl (teq (by decide : (1 : Int32) = (1 : Int32))).2 ?_
    show Steps p.tables e below (T102.setTop (mkF m 140 #[.val (.int p1), .val (.int p2), .val (.int (irm (p1 &&& (2147483647 : Int32)) (6 : Int32))), .val (.ref w), .val (.int (6 : Int32)), .val (.int (1 : Int32)), .val (.int (1 : Int32))] [])) _
    refine XS.iconst X102.here hx rfl (hb hby at_140) ?_
    show Steps p.tables e below (T102.setTop (mkF m 141 #[.val (.int p1), .val (.int p2), .val (.int (irm (p1 &&& (2147483647 : Int32)) (6 : Int32))), .val (.ref w), .val (.int (6 : Int32)), .val (.int (1 : Int32)), .val (.int (1 : Int32))] [(.int (1 : Int32))])) _
    refine XS.goto X102.here hx rfl (pc0 := 141) (pc' := 145) rfl (hb hby at_141) (by decide) (by decide) ?_
    show Steps p.tables e below (T102.setTop (mkF m 145 #[.val (.int p1), .val (.int p2), .val (.int (irm (p1 &&& (2147483647 : Int32)) (6 : Int32))), .val (.ref w), .val (.int (6 : Int32)), .val (.int (1 : Int32)), .val (.int (1 : Int32))] [(.int (1 : Int32))])) _
    exact retN X102 hx (t := .boolean) Bd.returns (by simp) (hb hby at_145) hr
  · show Q0 h0 n0 _ T102.heap _
    rw [e102]
    exact ⟨rfl, N102⟩
set_option maxRecDepth 65536 in
set_option maxHeartbeats 40000000 in
theorem rm0_5g (l : Launch) (Z : State) (a0 : Array Value) (hw : ∀ d ∈ tables_1, d.before a0 Z = true) (ws : List Jvm.Cond) (p1 p2 : Int32) (w : Addr) (h0 : Heap) (n0 : Nat) (O0 : Old Z n0 h0) (S : Sta Z Z.heap "com/example/plugroot/plugroot/sql/Comparison" "GREATER_OR_EQUAL" "Lcom/example/plugroot/plugroot/sql/Comparison;" (.ref w)) (E : Exa Z Z.heap w "com/example/plugroot/plugroot/sql/Comparison") (F_o : Fld Z Z.heap w "java/lang/Enum" "ordinal" "I" (.int 5)) (k0 : ¬ ((irm (p1 &&& (2147483647 : Int32)) (6 : Int32)) = 0)) (k1 : ¬ ((irm (p1 &&& (2147483647 : Int32)) (6 : Int32)) = 1)) (k2 : ¬ ((irm (p1 &&& (2147483647 : Int32)) (6 : Int32)) = 2)) (k3 : ¬ ((irm (p1 &&& (2147483647 : Int32)) (6 : Int32)) = 3)) (k4 : ¬ ((irm (p1 &&& (2147483647 : Int32)) (6 : Int32)) = 4)) (s1 : ¬ (p2 < 0)) (s2 : ¬ (p2 = 0)) :
    MetFree l x (head1 (Jvm.Cond.code x code maxLocals ret :: ws) room_1) (fun a_ U => a_ = #[(.int p1), (.int p2)] ∧ Z.Warmed39 U.vm ∧ U.heap = h0) (fun _ _ _ _ _ => True) (fun _ U o U' => ∃ v L, o = .returned v ∧ Q0 h0 n0 v U'.heap L ∧ FrameEnd U o U' L room_1.cells room_1.slots) := by
  refine MetFree.of_bodySF (plainFor_of_name pn_2) hisR ?_
  intro p e s m args below meth c s₁ Bd hml0 hP hK
  obtain ⟨rfl, hZ, hh⟩ := hP
  have hx := Bd.exec
  have hby := Bd.bytes
  have hml : c.maxLocals = 7 := hml0
  have hown : s.vm.findClass "com/example/plugroot/plugroot/sql/ComparisonHoldsPinLaw" = some m.cls := findClass_of_methodNamed Bd.named
  have hnm := (name_of_methodNamed Bd.named Bd.method).1
  have X0 : Stand p l e room_1 s m #[(.int p1), (.int p2)] below meth c s₁ [] 0 0 := Stand.of_body Bd
  have e0 : s₁.heap = h0 := by rw [← hh, Bd.state]; rfl
  have N0 := Fr.nil n0
  have pre0 : ∀ tg, Steps p.tables e below (s₁.setTop (mkF m 0 #[.val (.int p1), .val (.int p2), .unset, .unset, .unset, .unset, .unset] [])) tg → Steps p.tables e below (s₁.setTop (entryFrame m #[(.int p1), (.int p2)] maxLocals)) tg := fun tg kq => castTop (ef_II_7m m p1 p2) kq
  obtain ⟨T101, X101, e101, st101⟩ := getS2 X0 hx hZ hown (host := "") (Or.inl (wi hw 24 rfl)) Via.refl e0 (S.ext O0.2) (g := (mkF m 82 #[.val (.int p1), .val (.int p2), .val (.int (irm (p1 &&& (2147483647 : Int32)) (6 : Int32))), .unset, .unset, .unset, .unset] [])) rfl (hb hby at_82)
  obtain ⟨cq102, kq102, q102a, q102b, q102c⟩ := isOf hZ e101 (E.ext O0.2)
  obtain ⟨_, _, ⟨T102, L102, k102, n102⟩, -, X102, ⟨Lc102, hQ102, l102, y102, z102⟩, st102⟩ := X101.virtualBack hx (y := (⟨"com/example/plugroot/plugroot/sql/Comparison", "holds", "(I)Z"⟩ : MethodName)) (z := (⟨"com/example/plugroot/plugroot/sql/Comparison", "holds", "(I)Z"⟩ : MethodName)) hown (mvT hZ (wi hw 4 rfl)) (mvT hZ (wi hw 5 rfl)) (notFace_of_selects (args := #[]) (mvT hZ (wi hw 7 rfl))) (mvT hZ (wi hw 7 rfl)) (mvT hZ (wi hw 6 rfl)) (by decide) (backOf (W := 0) (rm1_5f l Z a0 hw [] w p2 h0 n0 O0 F_o E s1) hZ (wi hw 8 rfl) (wi hw 2 rfl) (by decide) (by decide)) q102a q102c (g := (mkF m 132 #[.val (.int p1), .val (.int p2), .val (.int (irm (p1 &&& (2147483647 : Int32)) (6 : Int32))), .val (.ref w), .val (.int (6 : Int32)), .val (.int (2 : Int32)), .val (.int (1 : Int32))] [(.int p2), (.ref w)])) rfl (by rw [hml]; rfl) (Steps.refl _) (argsL := [(.int p2)]) (rest := []) (lenOf pd_1 rfl) rfl (by show 2 * 0 + _ ≤ _; exact Nat.le_of_eq rfl) (hb hby at_132) (fun _ _ => ⟨rfl, e101, (by decide : 0 + 0 ≤ _), (by decide : 0 + 0 ≤ _)⟩)
  dsimp only [Pt.U, Pt.locs, Pt.cells, Pt.slots] at X102 l102 y102 z102 st102 hQ102
  subst l102 y102 z102
  obtain ⟨rfl, N102q, hh102⟩ := hQ102
  have e102 : T102.heap = h0 := hh102
  have N102 := Fr.app N0 N102q
  obtain ⟨fs, hr, hrun, hended, hW, hsame⟩ := X102.leave (v := some (.int (1 : Int32))) (fun h => by rw [Bd.returns] at h; cases h)
  refine ⟨_, _, pre0 _ ?_, hrun, hended, _, _, rfl, ?_, ⟨_, rfl⟩, hW, hsame.mono (by decide) (by decide)⟩
  · show Steps p.tables e below (s₁.setTop (mkF m 0 #[.val (.int p1), .val (.int p2), .unset, .unset, .unset, .unset, .unset] [])) _
    refine XS.iloadN X0.here hx rfl (hb hby at_0) rfl ?_
    show Steps p.tables e below (s₁.setTop (mkF m 1 #[.val (.int p1), .val (.int p2), .unset, .unset, .unset, .unset, .unset] [(.int p1)])) _
    refine X0.ldcInt hx hown (mvT hZ (wi hw 0 rfl)) (g := (mkF m 1 #[.val (.int p1), .val (.int p2), .unset, .unset, .unset, .unset, .unset] [(.int p1)])) rfl (hb hby at_1) _ ?_
    show Steps p.tables e below (s₁.setTop (mkF m 3 #[.val (.int p1), .val (.int p2), .unset, .unset, .unset, .unset, .unset] [(.int (2147483647 : Int32)), (.int p1)])) _
    refine XS.iand X0.here hx rfl (hb hby at_3) rfl ?_
    show Steps p.tables e below (s₁.setTop (mkF m 4 #[.val (.int p1), .val (.int p2), .unset, .unset, .unset, .unset, .unset] [(.int (p1 &&& (2147483647 : Int32)))])) _
    refine XS.bipush X0.here hx rfl (hb hby at_4) ?_
    show Steps p.tables e below (s₁.setTop (mkF m 6 #[.val (.int p1), .val (.int p2), .unset, .unset, .unset, .unset, .unset] [(.int (6 : Int32)), (.int (p1 &&& (2147483647 : Int32)))])) _
    refine XS.irem X0.here hx rfl (hb hby at_6) rfl (by decide) ?_
    show Steps p.tables e below (s₁.setTop (mkF m 7 #[.val (.int p1), .val (.int p2), .unset, .unset, .unset, .unset, .unset] [(.int (irm (p1 &&& (2147483647 : Int32)) (6 : Int32)))])) _
    refine XS.istoreN X0.here hx rfl (hb hby at_7) rfl (l' := #[.val (.int p1), .val (.int p2), .val (.int (irm (p1 &&& (2147483647 : Int32)) (6 : Int32))), .unset, .unset, .unset, .unset]) rfl ?_
    show Steps p.tables e below (s₁.setTop (mkF m 8 #[.val (.int p1), .val (.int p2), .val (.int (irm (p1 &&& (2147483647 : Int32)) (6 : Int32))), .unset, .unset, .unset, .unset] [])) _
    refine XS.iloadN X0.here hx rfl (hb hby at_8) rfl ?_
    show Steps p.tables e below (s₁.setTop (mkF m 9 #[.val (.int p1), .val (.int p2), .val (.int (irm (p1 &&& (2147483647 : Int32)) (6 : Int32))), .unset, .unset, .unset, .unset] [(.int (irm (p1 &&& (2147483647 : Int32)) (6 : Int32)))])) _
    refine XS.ifYes X0.here hx rfl (pc0 := 9) (pc' := 22) rfl (hb hby at_9) rfl ((if0 _ _).trans (feq k0).2) (by decide) (by decide) ?_
    show Steps p.tables e below (s₁.setTop (mkF m 22 #[.val (.int p1), .val (.int p2), .val (.int (irm (p1 &&& (2147483647 : Int32)) (6 : Int32))), .unset, .unset, .unset, .unset] [])) _
    refine XS.iloadN X0.here hx rfl (hb hby at_22) rfl ?_
    show Steps p.tables e below (s₁.setTop (mkF m 23 #[.val (.int p1), .val (.int p2), .val (.int (irm (p1 &&& (2147483647 : Int32)) (6 : Int32))), .unset, .unset, .unset, .unset] [(.int (irm (p1 &&& (2147483647 : Int32)) (6 : Int32)))])) _
    refine XS.iconst X0.here hx rfl (hb hby at_23) ?_
    show Steps p.tables e below (s₁.setTop (mkF m 24 #[.val (.int p1), .val (.int p2), .val (.int (irm (p1 &&& (2147483647 : Int32)) (6 : Int32))), .unset, .unset, .unset, .unset] [(.int (1 : Int32)), (.int (irm (p1 &&& (2147483647 : Int32)) (6 : Int32)))])) _
    refine XS.icmpYes X0.here hx rfl (pc0 := 24) (pc' := 37) rfl (hb hby at_24) rfl (feq k1).2 (by decide) (by decide) ?_
    show Steps p.tables e below (s₁.setTop (mkF m 37 #[.val (.int p1), .val (.int p2), .val (.int (irm (p1 &&& (2147483647 : Int32)) (6 : Int32))), .unset, .unset, .unset, .unset] [])) _
    refine XS.iloadN X0.here hx rfl (hb hby at_37) rfl ?_
    show Steps p.tables e below (s₁.setTop (mkF m 38 #[.val (.int p1), .val (.int p2), .val (.int (irm (p1 &&& (2147483647 : Int32)) (6 : Int32))), .unset, .unset, .unset, .unset] [(.int (irm (p1 &&& (2147483647 : Int32)) (6 : Int32)))])) _
    refine XS.iconst X0.here hx rfl (hb hby at_38) ?_
    show Steps p.tables e below (s₁.setTop (mkF m 39 #[.val (.int p1), .val (.int p2), .val (.int (irm (p1 &&& (2147483647 : Int32)) (6 : Int32))), .unset, .unset, .unset, .unset] [(.int (2 : Int32)), (.int (irm (p1 &&& (2147483647 : Int32)) (6 : Int32)))])) _
    refine XS.icmpYes X0.here hx rfl (pc0 := 39) (pc' := 52) rfl (hb hby at_39) rfl (feq k2).2 (by decide) (by decide) ?_
    show Steps p.tables e below (s₁.setTop (mkF m 52 #[.val (.int p1), .val (.int p2), .val (.int (irm (p1 &&& (2147483647 : Int32)) (6 : Int32))), .unset, .unset, .unset, .unset] [])) _
    refine XS.iloadN X0.here hx rfl (hb hby at_52) rfl ?_
    show Steps p.tables e below (s₁.setTop (mkF m 53 #[.val (.int p1), .val (.int p2), .val (.int (irm (p1 &&& (2147483647 : Int32)) (6 : Int32))), .unset, .unset, .unset, .unset] [(.int (irm (p1 &&& (2147483647 : Int32)) (6 : Int32)))])) _
    refine XS.iconst X0.here hx rfl (hb hby at_53) ?_
    show Steps p.tables e below (s₁.setTop (mkF m 54 #[.val (.int p1), .val (.int p2), .val (.int (irm (p1 &&& (2147483647 : Int32)) (6 : Int32))), .unset, .unset, .unset, .unset] [(.int (3 : Int32)), (.int (irm (p1 &&& (2147483647 : Int32)) (6 : Int32)))])) _
    refine XS.icmpYes X0.here hx rfl (pc0 := 54) (pc' := 67) rfl (hb hby at_54) rfl (feq k3).2 (by decide) (by decide) ?_
    show Steps p.tables e below (s₁.setTop (mkF m 67 #[.val (.int p1), .val (.int p2), .val (.int (irm (p1 &&& (2147483647 : Int32)) (6 : Int32))), .unset, .unset, .unset, .unset] [])) _
    refine XS.iloadN X0.here hx rfl (hb hby at_67) rfl ?_
    show Steps p.tables e below (s₁.setTop (mkF m 68 #[.val (.int p1), .val (.int p2), .val (.int (irm (p1 &&& (2147483647 : Int32)) (6 : Int32))), .unset, .unset, .unset, .unset] [(.int (irm (p1 &&& (2147483647 : Int32)) (6 : Int32)))])) _
    refine XS.iconst X0.here hx rfl (hb hby at_68) ?_
    show Steps p.tables e below (s₁.setTop (mkF m 69 #[.val (.int p1), .val (.int p2), .val (.int (irm (p1 &&& (2147483647 : Int32)) (6 : Int32))), .unset, .unset, .unset, .unset] [(.int (4 : Int32)), (.int (irm (p1 &&& (2147483647 : Int32)) (6 : Int32)))])) _
    refine XS.icmpYes X0.here hx rfl (pc0 := 69) (pc' := 82) rfl (hb hby at_69) rfl (feq k4).2 (by decide) (by decide) ?_
    show Steps p.tables e below (s₁.setTop (mkF m 82 #[.val (.int p1), .val (.int p2), .val (.int (irm (p1 &&& (2147483647 : Int32)) (6 : Int32))), .unset, .unset, .unset, .unset] [])) _
    refine st101 _ ?_
    show Steps p.tables e below (T101.setTop (mkF m 85 #[.val (.int p1), .val (.int p2), .val (.int (irm (p1 &&& (2147483647 : Int32)) (6 : Int32))), .unset, .unset, .unset, .unset] [(.ref w)])) _
    refine XS.astoreN X101.here hx rfl (hb hby at_85) rfl rfl (l' := #[.val (.int p1), .val (.int p2), .val (.int (irm (p1 &&& (2147483647 : Int32)) (6 : Int32))), .val (.ref w), .unset, .unset, .unset]) rfl ?_
    show Steps p.tables e below (T101.setTop (mkF m 86 #[.val (.int p1), .val (.int p2), .val (.int (irm (p1 &&& (2147483647 : Int32)) (6 : Int32))), .val (.ref w), .unset, .unset, .unset] [])) _
    refine XS.bipush X101.here hx rfl (hb hby at_86) ?_
    show Steps p.tables e below (T101.setTop (mkF m 88 #[.val (.int p1), .val (.int p2), .val (.int (irm (p1 &&& (2147483647 : Int32)) (6 : Int32))), .val (.ref w), .unset, .unset, .unset] [(.int (6 : Int32))])) _
    refine XS.istore X101.here hx rfl (hb hby at_88) rfl (l' := #[.val (.int p1), .val (.int p2), .val (.int (irm (p1 &&& (2147483647 : Int32)) (6 : Int32))), .val (.ref w), .val (.int (6 : Int32)), .unset, .unset]) rfl ?_
    show Steps p.tables e below (T101.setTop (mkF m 90 #[.val (.int p1), .val (.int p2), .val (.int (irm (p1 &&& (2147483647 : Int32)) (6 : Int32))), .val (.ref w), .val (.int (6 : Int32)), .unset, .unset] [])) _
    refine XS.iloadN X101.here hx rfl (hb hby at_90) rfl ?_
    show Steps p.tables e below (T101.setTop (mkF m 91 #[.val (.int p1), .val (.int p2), .val (.int (irm (p1 &&& (2147483647 : Int32)) (6 : Int32))), .val (.ref w), .val (.int (6 : Int32)), .unset, .unset] [(.int p2)])) _
    refine XS.ifYes X101.here hx rfl (pc0 := 91) (pc' := 100) rfl (hb hby at_91) rfl ((if0 _ _).trans (flt s1).2.1) (by decide) (by decide) ?_
    show Steps p.tables e below (T101.setTop (mkF m 100 #[.val (.int p1), .val (.int p2), .val (.int (irm (p1 &&& (2147483647 : Int32)) (6 : Int32))), .val (.ref w), .val (.int (6 : Int32)), .unset, .unset] [])) _
    refine XS.iloadN X101.here hx rfl (hb hby at_100) rfl ?_
    show Steps p.tables e below (T101.setTop (mkF m 101 #[.val (.int p1), .val (.int p2), .val (.int (irm (p1 &&& (2147483647 : Int32)) (6 : Int32))), .val (.ref w), .val (.int (6 : Int32)), .unset, .unset] [(.int p2)])) _
    refine XS.ifYes X101.here hx rfl (pc0 := 101) (pc' := 110) rfl (hb hby at_101) rfl ((if0 _ _).trans (feq s2).2) (by decide) (by decide) ?_
    show Steps p.tables e below (T101.setTop (mkF m 110 #[.val (.int p1), .val (.int p2), .val (.int (irm (p1 &&& (2147483647 : Int32)) (6 : Int32))), .val (.ref w), .val (.int (6 : Int32)), .unset, .unset] [])) _
    refine XS.iconst X101.here hx rfl (hb hby at_110) ?_
    show Steps p.tables e below (T101.setTop (mkF m 111 #[.val (.int p1), .val (.int p2), .val (.int (irm (p1 &&& (2147483647 : Int32)) (6 : Int32))), .val (.ref w), .val (.int (6 : Int32)), .unset, .unset] [(.int (2 : Int32))])) _
    refine XS.istore X101.here hx rfl (hb hby at_111) rfl (l' := #[.val (.int p1), .val (.int p2), .val (.int (irm (p1 &&& (2147483647 : Int32)) (6 : Int32))), .val (.ref w), .val (.int (6 : Int32)), .val (.int (2 : Int32)), .unset]) rfl ?_
    show Steps p.tables e below (T101.setTop (mkF m 113 #[.val (.int p1), .val (.int p2), .val (.int (irm (p1 &&& (2147483647 : Int32)) (6 : Int32))), .val (.ref w), .val (.int (6 : Int32)), .val (.int (2 : Int32)), .unset] [])) _
    refine XS.iload X101.here hx rfl (hb hby at_113) rfl ?_
    show Steps p.tables e below (T101.setTop (mkF m 115 #[.val (.int p1), .val (.int p2), .val (.int (irm (p1 &&& (2147483647 : Int32)) (6 : Int32))), .val (.ref w), .val (.int (6 : Int32)), .val (.int (2 : Int32)), .unset] [(.int (6 : Int32))])) _
    refine XS.iload X101.here hx rfl (hb hby at_115) rfl ?_
    show Steps p.tables e below (T101.setTop (mkF m 117 #[.val (.int p1), .val (.int p2), .val (.int (irm (p1 &&& (2147483647 : Int32)) (6 : Int32))), .val (.ref w), .val (.int (6 : Int32)), .val (.int (2 : Int32)), .unset] [(.int (2 : Int32)), (.int (6 : Int32))])) _
    refine XS.ishr X101.here hx rfl (hb hby at_117) rfl ?_
    show Steps p.tables e below (T101.setTop (mkF m 118 #[.val (.int p1), .val (.int p2), .val (.int (irm (p1 &&& (2147483647 : Int32)) (6 : Int32))), .val (.ref w), .val (.int (6 : Int32)), .val (.int (2 : Int32)), .unset] [(.int ((6 : Int32) >>> ((2 : Int32) &&& 31)))])) _
    refine XS.iconst X101.here hx rfl (hb hby at_118) ?_
    show Steps p.tables e below (T101.setTop (mkF m 119 #[.val (.int p1), .val (.int p2), .val (.int (irm (p1 &&& (2147483647 : Int32)) (6 : Int32))), .val (.ref w), .val (.int (6 : Int32)), .val (.int (2 : Int32)), .unset] [(.int (1 : Int32)), (.int ((6 : Int32) >>> ((2 : Int32) &&& 31)))])) _
    refine XS.iand X101.here hx rfl (hb hby at_119) rfl ?_
    show Steps p.tables e below (T101.setTop (mkF m 120 #[.val (.int p1), .val (.int p2), .val (.int (irm (p1 &&& (2147483647 : Int32)) (6 : Int32))), .val (.ref w), .val (.int (6 : Int32)), .val (.int (2 : Int32)), .unset] [(.int (((6 : Int32) >>> ((2 : Int32) &&& 31)) &&& (1 : Int32)))])) _
    refine XS.ifNo X101.here hx rfl (hb hby at_120) rfl ((if0 _ _).trans (feq (by decide : ¬ ((((6 : Int32) >>> ((2 : Int32) &&& 31)) &&& (1 : Int32)) = (0 : Int32)))).1) ?_
    show Steps p.tables e below (T101.setTop (mkF m 123 #[.val (.int p1), .val (.int p2), .val (.int (irm (p1 &&& (2147483647 : Int32)) (6 : Int32))), .val (.ref w), .val (.int (6 : Int32)), .val (.int (2 : Int32)), .unset] [])) _
    refine XS.iconst X101.here hx rfl (hb hby at_123) ?_
    show Steps p.tables e below (T101.setTop (mkF m 124 #[.val (.int p1), .val (.int p2), .val (.int (irm (p1 &&& (2147483647 : Int32)) (6 : Int32))), .val (.ref w), .val (.int (6 : Int32)), .val (.int (2 : Int32)), .unset] [(.int (1 : Int32))])) _
    refine XS.goto X101.here hx rfl (pc0 := 124) (pc' := 128) rfl (hb hby at_124) (by decide) (by decide) ?_
    show Steps p.tables e below (T101.setTop (mkF m 128 #[.val (.int p1), .val (.int p2), .val (.int (irm (p1 &&& (2147483647 : Int32)) (6 : Int32))), .val (.ref w), .val (.int (6 : Int32)), .val (.int (2 : Int32)), .unset] [(.int (1 : Int32))])) _
    refine XS.istore X101.here hx rfl (hb hby at_128) rfl (l' := #[.val (.int p1), .val (.int p2), .val (.int (irm (p1 &&& (2147483647 : Int32)) (6 : Int32))), .val (.ref w), .val (.int (6 : Int32)), .val (.int (2 : Int32)), .val (.int (1 : Int32))]) rfl ?_
    show Steps p.tables e below (T101.setTop (mkF m 130 #[.val (.int p1), .val (.int p2), .val (.int (irm (p1 &&& (2147483647 : Int32)) (6 : Int32))), .val (.ref w), .val (.int (6 : Int32)), .val (.int (2 : Int32)), .val (.int (1 : Int32))] [])) _
    refine XS.aloadN X101.here hx rfl (hb hby at_130) rfl rfl ?_
    show Steps p.tables e below (T101.setTop (mkF m 131 #[.val (.int p1), .val (.int p2), .val (.int (irm (p1 &&& (2147483647 : Int32)) (6 : Int32))), .val (.ref w), .val (.int (6 : Int32)), .val (.int (2 : Int32)), .val (.int (1 : Int32))] [(.ref w)])) _
    refine XS.iloadN X101.here hx rfl (hb hby at_131) rfl ?_
    show Steps p.tables e below (T101.setTop (mkF m 132 #[.val (.int p1), .val (.int p2), .val (.int (irm (p1 &&& (2147483647 : Int32)) (6 : Int32))), .val (.ref w), .val (.int (6 : Int32)), .val (.int (2 : Int32)), .val (.int (1 : Int32))] [(.int p2), (.ref w)])) _
    refine st102.trans ?_
    show Steps p.tables e below (T102.setTop (mkF m 135 #[.val (.int p1), .val (.int p2), .val (.int (irm (p1 &&& (2147483647 : Int32)) (6 : Int32))), .val (.ref w), .val (.int (6 : Int32)), .val (.int (2 : Int32)), .val (.int (1 : Int32))] [(.int (1 : Int32))])) _
    refine XS.iload X102.here hx rfl (hb hby at_135) rfl ?_
    show Steps p.tables e below (T102.setTop (mkF m 137 #[.val (.int p1), .val (.int p2), .val (.int (irm (p1 &&& (2147483647 : Int32)) (6 : Int32))), .val (.ref w), .val (.int (6 : Int32)), .val (.int (2 : Int32)), .val (.int (1 : Int32))] [(.int (1 : Int32)), (.int (1 : Int32))])) _
    refine XS.icmpNo X102.here hx rfl (hb hby at_137) rfl (teq (by decide : (1 : Int32) = (1 : Int32))).2 ?_
    show Steps p.tables e below (T102.setTop (mkF m 140 #[.val (.int p1), .val (.int p2), .val (.int (irm (p1 &&& (2147483647 : Int32)) (6 : Int32))), .val (.ref w), .val (.int (6 : Int32)), .val (.int (2 : Int32)), .val (.int (1 : Int32))] [])) _
    refine XS.iconst X102.here hx rfl (hb hby at_140) ?_
    show Steps p.tables e below (T102.setTop (mkF m 141 #[.val (.int p1), .val (.int p2), .val (.int (irm (p1 &&& (2147483647 : Int32)) (6 : Int32))), .val (.ref w), .val (.int (6 : Int32)), .val (.int (2 : Int32)), .val (.int (1 : Int32))] [(.int (1 : Int32))])) _
    refine XS.goto X102.here hx rfl (pc0 := 141) (pc' := 145) rfl (hb hby at_141) (by decide) (by decide) ?_
    show Steps p.tables e below (T102.setTop (mkF m 145 #[.val (.int p1), .val (.int p2), .val (.int (irm (p1 &&& (2147483647 : Int32)) (6 : Int32))), .val (.ref w), .val (.int (6 : Int32)), .val (.int (2 : Int32)), .val (.int (1 : Int32))] [(.int (1 : Int32))])) _
    exact retN X102 hx (t := .boolean) Bd.returns (by simp) (hb hby at_145) hr
  · show Q0 h0 n0 _ T102.heap _
    rw [e102]
    exact ⟨rfl, N102⟩
set_option maxRecDepth 65536 in
set_option maxHeartbeats 40000000 in
theorem comes_1 {Post : Tables → Env → Array Value → State → Outcome → State → Prop} (hpost : ∀ tb e args s v u, (limb_1_1.after args s (.returned v) u = true ∧ limb_1_2.after args s (.returned v) u = true ∧ True) → FrameEnd s (.returned v) u (Jvm.fieldLocs frame_1_writes args s ++ Jvm.arrayLocs frame_1_arrays args s ++ Jvm.staticLocs frame_1_statics s) 0 0 → Post tb e args s (.returned v) u) :
    ArmFor flags0 classFile x code maxLocals ret World_1 tables_1 room_1 Calls_1 rest_1 Pre_1 Post := by
  intro l hfl _ _ p e ha hc hk s m args below hf hA hF happ hP
  obtain ⟨hcalls, hrest, hpre⟩ := hP
  obtain ⟨-, -, -, hnamed, -, -, -, hat⟩ := (Spec.applies_iff hf).mp happ
  obtain ⟨hg, hn⟩ := and_e (Cond.before_iff.mp (show (Jvm.Cond.and given_1 narrow_1).before args s = true from hpre))
  obtain ⟨hcnt, hi0⟩ := and_e hg
  obtain ⟨ha0, hb0⟩ := and_e hi0
  obtain ⟨w0, w1, rfl⟩ : ∃ w0 w1 : Value, args = #[w0, w1] := by
    have hs : args.size = 2 := by simpa [Cond.value, given_1] using hcnt
    obtain ⟨L⟩ := args
    match L, hs with
    | [w0, w1], _ => exact ⟨w0, w1, rfl⟩
  have hw := fun d (hd : d ∈ tables_1) => atoms_spec (ws := Jvm.Cond.code x code maxLocals ret :: tables_1) hat d (List.mem_cons_of_mem _ hd)
  have hfit : Fit s := fun {y c} hc i hi => by
    obtain ⟨ha, rfl⟩ := Array.getElem?_eq_some_iff.mp hc
    have q := List.all_eq_true.mp ((Array.all_eq_true_iff_forall_mem.mp hF) _ (Array.getElem_mem ha)) i (List.mem_range.mpr hi)
    simpa [Array.getElem?_eq_getElem hi] using q
  obtain ⟨i0, ei0⟩ := is_v ha0
  obtain rfl : w0 = (.int i0) := Option.some.inj ei0
  obtain ⟨i1, ei1⟩ := is_v hb0
  obtain rfl : w1 = (.int i1) := Option.some.inj ei1
  obtain ⟨l1, r1⟩ := and_e hn
  obtain ⟨l2, r2⟩ := and_e r1
  obtain ⟨l3, r3⟩ := and_e r2
  obtain ⟨l4, r4⟩ := and_e r3
  obtain ⟨l5, r5⟩ := and_e r4
  obtain ⟨l6, r6⟩ := and_e r5
  obtain ⟨l7, r7⟩ := and_e r6
  obtain ⟨l8, r8⟩ := and_e r7
  obtain ⟨l9, r9⟩ := and_e r8
  obtain ⟨l10, r10⟩ := and_e r9
  obtain ⟨l11, r11⟩ := and_e r10
  obtain ⟨w_EQUAL, ev_EQUAL⟩ := exa_v l1
  have S_EQUAL := Sta.start ev_EQUAL (Or.inr ⟨(wi hw 2 rfl), (wi hw 3 rfl)⟩)
  have E_EQUAL := Exa.start ev_EQUAL l1
  have F_ordinal_EQUAL := own_fldI ev_EQUAL l2
  obtain ⟨w_LESS, ev_LESS⟩ := exa_v l3
  have S_LESS := Sta.start ev_LESS (Or.inr ⟨(wi hw 2 rfl), (wi hw 19 rfl)⟩)
  have E_LESS := Exa.start ev_LESS l3
  have F_ordinal_LESS := own_fldI ev_LESS l4
  obtain ⟨w_LESS_OR_EQUAL, ev_LESS_OR_EQUAL⟩ := exa_v l5
  have S_LESS_OR_EQUAL := Sta.start ev_LESS_OR_EQUAL (Or.inr ⟨(wi hw 2 rfl), (wi hw 21 rfl)⟩)
  have E_LESS_OR_EQUAL := Exa.start ev_LESS_OR_EQUAL l5
  have F_ordinal_LESS_OR_EQUAL := own_fldI ev_LESS_OR_EQUAL l6
  obtain ⟨w_NOT_EQUAL, ev_NOT_EQUAL⟩ := exa_v l7
  have S_NOT_EQUAL := Sta.start ev_NOT_EQUAL (Or.inr ⟨(wi hw 2 rfl), (wi hw 23 rfl)⟩)
  have E_NOT_EQUAL := Exa.start ev_NOT_EQUAL l7
  have F_ordinal_NOT_EQUAL := own_fldI ev_NOT_EQUAL l8
  obtain ⟨w_GREATER_OR_EQUAL, ev_GREATER_OR_EQUAL⟩ := exa_v l9
  have S_GREATER_OR_EQUAL := Sta.start ev_GREATER_OR_EQUAL (Or.inr ⟨(wi hw 2 rfl), (wi hw 25 rfl)⟩)
  have E_GREATER_OR_EQUAL := Exa.start ev_GREATER_OR_EQUAL l9
  have F_ordinal_GREATER_OR_EQUAL := own_fldI ev_GREATER_OR_EQUAL l10
  obtain ⟨w_GREATER, ev_GREATER⟩ := exa_v l11
  have S_GREATER := Sta.start ev_GREATER (Or.inr ⟨(wi hw 2 rfl), (wi hw 27 rfl)⟩)
  have E_GREATER := Exa.start ev_GREATER l11
  have F_ordinal_GREATER := own_fldI ev_GREATER r11
  have key : MetFree l x (head1 (Jvm.Cond.code x code maxLocals ret :: tables_1) room_1) (fun a U => a = #[(.int i0), (.int i1)] ∧ s.Warmed39 U.vm ∧ U.heap = s.heap) (fun _ _ _ _ _ => True) (fun _ U o U' => ∃ v L, o = .returned v ∧ Q0 s.heap s.heap.size v U'.heap L ∧ FrameEnd U o U' L room_1.cells room_1.slots) := by
    by_cases k0 : (irm (i0 &&& (2147483647 : Int32)) (6 : Int32)) = 0
    · by_cases s1 : i1 < 0
      · exact rm0_0l l s _ hw tables_1 i0 i1 w_EQUAL s.heap s.heap.size (Old.start s) S_EQUAL E_EQUAL F_ordinal_EQUAL k0 s1
      by_cases s2 : i1 = 0
      · exact rm0_0e l s _ hw tables_1 i0 i1 w_EQUAL s.heap s.heap.size (Old.start s) S_EQUAL E_EQUAL F_ordinal_EQUAL k0 s1 s2
      · exact rm0_0g l s _ hw tables_1 i0 i1 w_EQUAL s.heap s.heap.size (Old.start s) S_EQUAL E_EQUAL F_ordinal_EQUAL k0 s1 s2
    by_cases k1 : (irm (i0 &&& (2147483647 : Int32)) (6 : Int32)) = 1
    · by_cases s1 : i1 < 0
      · exact rm0_1l l s _ hw tables_1 i0 i1 w_NOT_EQUAL s.heap s.heap.size (Old.start s) S_NOT_EQUAL E_NOT_EQUAL F_ordinal_NOT_EQUAL k0 k1 s1
      by_cases s2 : i1 = 0
      · exact rm0_1e l s _ hw tables_1 i0 i1 w_NOT_EQUAL s.heap s.heap.size (Old.start s) S_NOT_EQUAL E_NOT_EQUAL F_ordinal_NOT_EQUAL k0 k1 s1 s2
      · exact rm0_1g l s _ hw tables_1 i0 i1 w_NOT_EQUAL s.heap s.heap.size (Old.start s) S_NOT_EQUAL E_NOT_EQUAL F_ordinal_NOT_EQUAL k0 k1 s1 s2
    by_cases k2 : (irm (i0 &&& (2147483647 : Int32)) (6 : Int32)) = 2
    · by_cases s1 : i1 < 0
      · exact rm0_2l l s _ hw tables_1 i0 i1 w_LESS s.heap s.heap.size (Old.start s) S_LESS E_LESS F_ordinal_LESS k0 k1 k2 s1
      by_cases s2 : i1 = 0
      · exact rm0_2e l s _ hw tables_1 i0 i1 w_LESS s.heap s.heap.size (Old.start s) S_LESS E_LESS F_ordinal_LESS k0 k1 k2 s1 s2
      · exact rm0_2g l s _ hw tables_1 i0 i1 w_LESS s.heap s.heap.size (Old.start s) S_LESS E_LESS F_ordinal_LESS k0 k1 k2 s1 s2
    by_cases k3 : (irm (i0 &&& (2147483647 : Int32)) (6 : Int32)) = 3
    · by_cases s1 : i1 < 0
      · exact rm0_3l l s _ hw tables_1 i0 i1 w_GREATER s.heap s.heap.size (Old.start s) S_GREATER E_GREATER F_ordinal_GREATER k0 k1 k2 k3 s1
      by_cases s2 : i1 = 0
      · exact rm0_3e l s _ hw tables_1 i0 i1 w_GREATER s.heap s.heap.size (Old.start s) S_GREATER E_GREATER F_ordinal_GREATER k0 k1 k2 k3 s1 s2
      · exact rm0_3g l s _ hw tables_1 i0 i1 w_GREATER s.heap s.heap.size (Old.start s) S_GREATER E_GREATER F_ordinal_GREATER k0 k1 k2 k3 s1 s2
    by_cases k4 : (irm (i0 &&& (2147483647 : Int32)) (6 : Int32)) = 4
    · by_cases s1 : i1 < 0
      · exact rm0_4l l s _ hw tables_1 i0 i1 w_LESS_OR_EQUAL s.heap s.heap.size (Old.start s) S_LESS_OR_EQUAL E_LESS_OR_EQUAL F_ordinal_LESS_OR_EQUAL k0 k1 k2 k3 k4 s1
      by_cases s2 : i1 = 0
      · exact rm0_4e l s _ hw tables_1 i0 i1 w_LESS_OR_EQUAL s.heap s.heap.size (Old.start s) S_LESS_OR_EQUAL E_LESS_OR_EQUAL F_ordinal_LESS_OR_EQUAL k0 k1 k2 k3 k4 s1 s2
      · exact rm0_4g l s _ hw tables_1 i0 i1 w_LESS_OR_EQUAL s.heap s.heap.size (Old.start s) S_LESS_OR_EQUAL E_LESS_OR_EQUAL F_ordinal_LESS_OR_EQUAL k0 k1 k2 k3 k4 s1 s2
    by_cases s1 : i1 < 0
    · exact rm0_5l l s _ hw tables_1 i0 i1 w_GREATER_OR_EQUAL s.heap s.heap.size (Old.start s) S_GREATER_OR_EQUAL E_GREATER_OR_EQUAL F_ordinal_GREATER_OR_EQUAL k0 k1 k2 k3 k4 s1
    by_cases s2 : i1 = 0
    · exact rm0_5e l s _ hw tables_1 i0 i1 w_GREATER_OR_EQUAL s.heap s.heap.size (Old.start s) S_GREATER_OR_EQUAL E_GREATER_OR_EQUAL F_ordinal_GREATER_OR_EQUAL k0 k1 k2 k3 k4 s1 s2
    · exact rm0_5g l s _ hw tables_1 i0 i1 w_GREATER_OR_EQUAL s.heap s.heap.size (Old.start s) S_GREATER_OR_EQUAL E_GREATER_OR_EQUAL F_ordinal_GREATER_OR_EQUAL k0 k1 k2 k3 k4 s1 s2
  obtain ⟨n, o, h1, h2, h3, _, L, rfl, ⟨rfl, N⟩, hq⟩ := key p e ha hc hk s m _ below hf ((Spec.applies_iff_loose hf).mp happ).1 ⟨rfl, State.Warmed39.refl s, rfl⟩ trivial
  refine ⟨n, _, h1, h2, h3, hpost _ _ _ _ _ _ ⟨Cond.after_iff.mpr rfl, Cond.after_iff.mpr (eq_i res_at (Term.int_eval (1)) rfl), trivial⟩ ⟨hq.1, hq.2.1, (hq.2.2.sift fun y hy => Or.inr (N y hy)).mono (by decide) (by decide)⟩⟩
theorem main_1_1 : Claimed_1_1 := comes_1 fun _ _ _ _ _ _ h hF => ⟨h.1, hF⟩
theorem main_1_2 : Claimed_1_2 := comes_1 fun _ _ _ _ _ _ h hF => ⟨h.2.1, hF⟩
end Jvm.Pilot.@@N@@
namespace Jvm.Pilot.@@N@@
open Jvm Jvm.ClassFile Sem Op Lib Jvm.Free Jvm.Stand Jvm.Pilot.@@N@@.Jvm.D
/-! MADE BY PROGRAM (witnessworld.py) out of the Statement's table words and the real class files: 12 classes; the members and pool entries that the words name. The judged class is class 1, her method 1. -/
namespace start1
open Jvm.ClassFile
def u (s : String) : CpInfo := .utf8 (stringToUtf16 s)
/-- a pool by its gaps: so many unusable entries, then the entry; so many at the end -/
def gap : Nat → List CpInfo → List CpInfo
  | 0, r => r
  | n + 1, r => .unusable :: gap n r
def poolList (es : List (Nat × CpInfo)) (last : Nat) : List CpInfo := es.foldr (fun e r => gap e.1 (e.2 :: r)) (gap last [])
def pool (es : List (Nat × CpInfo)) (last : Nat) : Array CpInfo := ⟨poolList es last⟩
def fileOf (pool : Array CpInfo) (this : Nat) (attrs : Array Attribute := #[]) (ms : Array MethodInfo := #[]) (fl : Nat := 33) (sup : Nat := 0) (ifs : Array Nat := #[]) (fds : Array FieldInfo := #[]) : ClassFile where
  minorVersion := 0
  majorVersion := 65
  constantPool := pool
  accessFlags := fl
  thisClass := this
  superClass := sup
  interfaces := ifs
  fields := fds
  methods := ms
  attributes := attrs
def plain (name : String) (sup : Option ClassId) : Class where
  name := name
  kind := .ordinary
  loader := none
  accessFlags := 33
  super := sup
  interfaces := #[]
  cf := none
  fields := #[]
  methods := #[]
  instanceTypes := #[]
  staticTypes := #[]
  resolved := #[]
  callSites := []
  init := .initialized
  statics := none
  mirror := none

def pool0 : Array CpInfo := pool [(5, u "<init>"), (0, u "()V"), (1, .class_ 10), (1, u "java/lang/Object")] 113

def k0m0 : Method := { name := "<init>", desc := "()V", sig := { parameters := [], returnType := none }, accessFlags := 1, code := none }
/-- java/lang/Object -/
def k0 : Class := { plain "java/lang/Object" none with
  accessFlags := 33
  interfaces := #[]
  cf := some (fileOf pool0 8 #[] #[{ accessFlags := 1, nameIndex := 5, descriptorIndex := 6, attributes := #[] }] 33 0 #[] #[])
  fields := #[]
  methods := #[k0m0]
  instanceTypes := #[]
  staticTypes := #[]
  resolved := Array.replicate 124 none
  statics := none }

def pool1 : Array CpInfo := pool [(2, .class_ 4), (1, u "java/lang/Object"), (0, u "<init>"), (0, u "()V"), (0, .integer 2147483647), (0, .fieldref 9 10), (0, .class_ 11), (0, .nameAndType 12 13), (0, u "com/example/plugroot/plugroot/sql/Comparison"), (0, u "EQUAL"), (0, u "Lcom/example/plugroot/plugroot/sql/Comparison;"), (0, .fieldref 9 15), (0, .nameAndType 16 13), (0, u "NOT_EQUAL"), (0, .fieldref 9 18), (0, .nameAndType 19 13), (0, u "LESS"), (0, .fieldref 9 21), (0, .nameAndType 22 13), (0, u "GREATER"), (0, .fieldref 9 24), (0, .nameAndType 25 13), (0, u "LESS_OR_EQUAL"), (0, .fieldref 9 27), (0, .nameAndType 28 13), (0, u "GREATER_OR_EQUAL"), (0, .methodref 9 30), (0, .nameAndType 31 32), (0, u "holds"), (0, u "(I)Z"), (0, .class_ 34), (0, u "com/example/plugroot/plugroot/sql/ComparisonHoldsPinLaw"), (2, u "law"), (0, u "(II)Z")] 3

def k1m0 : Method := { name := "<init>", desc := "()V", sig := { parameters := [], returnType := none }, accessFlags := 1, code := none }
def k1c1 : Code := { maxStack := 2, maxLocals := 7, code := code, exceptionTable := #[], attributes := #[] }
def k1m1 : Method := { name := "law", desc := "(II)Z", sig := { parameters := [.int, .int], returnType := some .boolean }, accessFlags := 9, code := some k1c1 }
/-- com/example/plugroot/plugroot/sql/ComparisonHoldsPinLaw -/
def k1 : Class := { plain "com/example/plugroot/plugroot/sql/ComparisonHoldsPinLaw" (some 0) with
  accessFlags := 49
  interfaces := #[]
  cf := some (fileOf pool1 33 #[] #[{ accessFlags := 1, nameIndex := 5, descriptorIndex := 6, attributes := #[] }, { accessFlags := 9, nameIndex := 37, descriptorIndex := 38, attributes := #[] }] 49 2 #[] #[])
  fields := #[]
  methods := #[k1m0, k1m1]
  instanceTypes := #[]
  staticTypes := #[]
  resolved := Array.replicate 42 none
  statics := none }

def pool2 : Array CpInfo := pool [(1, .class_ 2), (0, u "java/lang/constant/Constable"), (0, .class_ 4), (0, u "java/lang/Object")] 6

/-- java/lang/constant/Constable -/
def k2 : Class := { plain "java/lang/constant/Constable" (some 0) with
  accessFlags := 1537
  interfaces := #[]
  cf := some (fileOf pool2 1 #[] #[] 1537 3 #[] #[])
  fields := #[]
  methods := #[]
  instanceTypes := #[]
  staticTypes := #[]
  resolved := Array.replicate 11 none
  statics := none }

def pool3 : Array CpInfo := pool [(1, .class_ 2), (0, u "java/lang/Comparable"), (0, .class_ 4), (0, u "java/lang/Object")] 7

/-- java/lang/Comparable -/
def k3 : Class := { plain "java/lang/Comparable" (some 0) with
  accessFlags := 1537
  interfaces := #[]
  cf := some (fileOf pool3 1 #[] #[] 1537 3 #[] #[])
  fields := #[]
  methods := #[]
  instanceTypes := #[]
  staticTypes := #[]
  resolved := Array.replicate 12 none
  statics := none }

def pool4 : Array CpInfo := pool [(1, .class_ 2), (0, u "java/io/Serializable"), (0, .class_ 4), (0, u "java/lang/Object")] 2

/-- java/io/Serializable -/
def k4 : Class := { plain "java/io/Serializable" (some 0) with
  accessFlags := 1537
  interfaces := #[]
  cf := some (fileOf pool4 1 #[] #[] 1537 3 #[] #[])
  fields := #[]
  methods := #[]
  instanceTypes := #[]
  staticTypes := #[]
  resolved := Array.replicate 7 none
  statics := none }

def pool5 : Array CpInfo := pool [(2, .class_ 4), (1, u "java/lang/Enum"), (0, u "name"), (0, u "Ljava/lang/String;"), (0, .fieldref 2 8), (0, .nameAndType 9 10), (0, u "ordinal"), (0, u "I"), (1, .class_ 14), (1, u "java/lang/Object"), (4, u "hash"), (86, .class_ 108), (1, u "java/lang/Enum$EnumDesc"), (2, .class_ 112), (0, u "java/lang/constant/Constable"), (0, .class_ 114), (0, u "java/lang/Comparable"), (0, .class_ 116), (0, u "java/io/Serializable"), (9, u "()I")] 77

def k5c0 : Code := { maxStack := 1, maxLocals := 1, code := jdk_37_method_2_code, exceptionTable := #[], attributes := #[] }
def k5m0 : Method := { name := "ordinal", desc := "()I", sig := { parameters := [], returnType := some .int }, accessFlags := 17, code := some k5c0 }
/-- java/lang/Enum -/
def k5 : Class := { plain "java/lang/Enum" (some 0) with
  accessFlags := 1057
  interfaces := #[2, 3, 4]
  cf := some (fileOf pool5 2 #[.nestMembers #[106]] #[{ accessFlags := 17, nameIndex := 9, descriptorIndex := 126, attributes := #[] }] 1057 12 #[111, 113, 115] #[{ accessFlags := 18, nameIndex := 5, descriptorIndex := 6, attributes := #[] }, { accessFlags := 18, nameIndex := 9, descriptorIndex := 10, attributes := #[] }, { accessFlags := 2, nameIndex := 19, descriptorIndex := 10, attributes := #[] }])
  fields := #[{ name := "name", type := (.object "java/lang/String"), accessFlags := 18, slot := 0, constantValue := 0 }, { name := "ordinal", type := .int, accessFlags := 18, slot := 1, constantValue := 0 }, { name := "hash", type := .int, accessFlags := 2, slot := 2, constantValue := 0 }]
  methods := #[k5m0]
  instanceTypes := #[(.object "java/lang/String"), .int, .int]
  staticTypes := #[]
  resolved := Array.replicate 204 none
  statics := none }

def pool6 : Array CpInfo := pool [(1, .class_ 2), (0, u "com/example/plugroot/plugroot/sql/Comparison"), (2, u "EQUAL"), (0, u "Lcom/example/plugroot/plugroot/sql/Comparison;"), (2, u "NOT_EQUAL"), (2, u "LESS"), (2, u "GREATER"), (2, u "LESS_OR_EQUAL"), (2, u "GREATER_OR_EQUAL"), (2, u "$VALUES"), (0, u "[Lcom/example/plugroot/plugroot/sql/Comparison;"), (6, .class_ 34), (1, u "java/lang/Enum"), (8, u "symbol"), (0, u "Ljava/lang/String;"), (14, .methodref 1 60), (0, .nameAndType 61 62), (0, u "ordinal"), (0, u "()I"), (35, u "holds"), (0, u "(I)Z")] 5

def k6c0 : Code := { maxStack := 4, maxLocals := 2, code := prog_73_method_5_code, exceptionTable := #[], attributes := #[] }
def k6m0 : Method := { name := "holds", desc := "(I)Z", sig := { parameters := [.int], returnType := some .boolean }, accessFlags := 1, code := some k6c0 }
/-- com/example/plugroot/plugroot/sql/Comparison -/
def k6 : Class := { plain "com/example/plugroot/plugroot/sql/Comparison" (some 5) with
  accessFlags := 16433
  interfaces := #[]
  cf := some (fileOf pool6 1 #[] #[{ accessFlags := 1, nameIndex := 98, descriptorIndex := 99, attributes := #[] }] 16433 32 #[] #[{ accessFlags := 16409, nameIndex := 5, descriptorIndex := 6, attributes := #[] }, { accessFlags := 16409, nameIndex := 9, descriptorIndex := 6, attributes := #[] }, { accessFlags := 16409, nameIndex := 12, descriptorIndex := 6, attributes := #[] }, { accessFlags := 16409, nameIndex := 15, descriptorIndex := 6, attributes := #[] }, { accessFlags := 16409, nameIndex := 18, descriptorIndex := 6, attributes := #[] }, { accessFlags := 16409, nameIndex := 21, descriptorIndex := 6, attributes := #[] }, { accessFlags := 18, nameIndex := 43, descriptorIndex := 44, attributes := #[] }, { accessFlags := 4122, nameIndex := 24, descriptorIndex := 25, attributes := #[] }])
  fields := #[{ name := "EQUAL", type := (.object "com/example/plugroot/plugroot/sql/Comparison"), accessFlags := 16409, slot := 0, constantValue := 0 }, { name := "NOT_EQUAL", type := (.object "com/example/plugroot/plugroot/sql/Comparison"), accessFlags := 16409, slot := 1, constantValue := 0 }, { name := "LESS", type := (.object "com/example/plugroot/plugroot/sql/Comparison"), accessFlags := 16409, slot := 2, constantValue := 0 }, { name := "GREATER", type := (.object "com/example/plugroot/plugroot/sql/Comparison"), accessFlags := 16409, slot := 3, constantValue := 0 }, { name := "LESS_OR_EQUAL", type := (.object "com/example/plugroot/plugroot/sql/Comparison"), accessFlags := 16409, slot := 4, constantValue := 0 }, { name := "GREATER_OR_EQUAL", type := (.object "com/example/plugroot/plugroot/sql/Comparison"), accessFlags := 16409, slot := 5, constantValue := 0 }, { name := "symbol", type := (.object "java/lang/String"), accessFlags := 18, slot := 3, constantValue := 0 }, { name := "$VALUES", type := (.array (.object "com/example/plugroot/plugroot/sql/Comparison")), accessFlags := 4122, slot := 6, constantValue := 0 }]
  methods := #[k6m0]
  instanceTypes := #[(.object "java/lang/String"), .int, .int, (.object "java/lang/String")]
  staticTypes := #[(.object "com/example/plugroot/plugroot/sql/Comparison"), (.object "com/example/plugroot/plugroot/sql/Comparison"), (.object "com/example/plugroot/plugroot/sql/Comparison"), (.object "com/example/plugroot/plugroot/sql/Comparison"), (.object "com/example/plugroot/plugroot/sql/Comparison"), (.object "com/example/plugroot/plugroot/sql/Comparison"), (.array (.object "com/example/plugroot/plugroot/sql/Comparison"))]
  resolved := Array.replicate 105 none
  statics := some 0 }

def pool7 : Array CpInfo := pool [(1, u "java/lang/Cloneable"), (0, .class_ 1), (0, u "java/lang/Object"), (0, .class_ 3)] 3

/-- java/lang/Cloneable -/
def k7 : Class := { plain "java/lang/Cloneable" (some 0) with
  accessFlags := 1537
  interfaces := #[]
  cf := some (fileOf pool7 2 #[] #[] 1537 4 #[] #[])
  fields := #[]
  methods := #[]
  instanceTypes := #[]
  staticTypes := #[]
  resolved := Array.replicate 8 none
  statics := none }

/-- the primitive byte -/
def k8 : Class := { plain "byte" none with kind := .primitive 'B', accessFlags := 0x411 }
/-- [B -/
def k9 : Class := { plain "[B" (some 0) with kind := .array 8 .byte, interfaces := #[7, 4], accessFlags := 1041 }

/-- the primitive int -/
def k10 : Class := { plain "int" none with kind := .primitive 'I', accessFlags := 0x411 }
/-- [I -/
def k11 : Class := { plain "[I" (some 0) with kind := .array 10 .int, interfaces := #[7, 4], accessFlags := 1041 }

def heap : Heap := #[{ cls := 6, slots := #[.ref 1, .ref 4, .ref 2, .ref 6, .ref 3, .ref 5, .null], vm := .statics 6 },
  { cls := 6, slots := #[.null, .int 0, .int 0, .null], vm := .none },
  { cls := 6, slots := #[.null, .int 2, .int 0, .null], vm := .none },
  { cls := 6, slots := #[.null, .int 4, .int 0, .null], vm := .none },
  { cls := 6, slots := #[.null, .int 1, .int 0, .null], vm := .none },
  { cls := 6, slots := #[.null, .int 5, .int 0, .null], vm := .none },
  { cls := 6, slots := #[.null, .int 3, .int 0, .null], vm := .none }]
def classes : Array Class := #[k0, k1, k2, k3, k4, k5, k6, k7, k8, k9, k10, k11]
def interned : List (Array UInt16 × Addr) := []
def slotsUsed : Nat := 31
def theMethod : MethodId := ⟨1, 1⟩
def args0 : Array Value := #[.int 5, .int 5]
def aboutOver (below : List Frame) : State where
  vm := { classes := classes, interned := interned.toArray }
  heap := heap
  slotsUsed := slotsUsed
  threads := #[{ frames := .invoking theMethod args0 :: below }]
def below0 : List Frame := [.native { method := ⟨0, 0⟩, args := #[] }]
def about1 : State := aboutOver below0
def p0 : Program := .bare "" "" ""
def e0 : Env := launch0.env 0 0 0
theorem w_frames : about1.frames = Frame.invoking theMethod args0 :: below0 := rfl
set_option maxRecDepth 65536 in
theorem w_args : argsFit about1.vm theMethod args0 = true := by decide +kernel
set_option maxRecDepth 65536 in
theorem w_heap : heapFits about1 = true := by decide +kernel
set_option maxRecDepth 65536 in
theorem w_runnable : about1.curStatus? = some .runnable := by decide +kernel
set_option maxRecDepth 65536 in
theorem w_alone : about1.alone = true := by decide +kernel
set_option maxRecDepth 65536 in
theorem w_named : about1.methodNamed? x = some theMethod := by decide +kernel
set_option maxRecDepth 65536 in
theorem w_hears : about1.hears theMethod below0 = true := by decide +kernel
set_option maxRecDepth 65536 in
theorem w_ripe : about1.ripe theMethod args0 below0 = true := by decide +kernel
theorem w_running : about1.status = .running := rfl
set_option maxRecDepth 65536 in
theorem w_room : about1.hasRoom e0.platform room_1 = true :=
  launch0.hasRoom_least _ room_1 (by decide +kernel) (by decide +kernel) (by decide +kernel) (by decide +kernel) (by decide +kernel) (by decide +kernel)
theorem allAtoms_all (ts : List Jvm.Cond) (a : Array Jvm.Value) (st : Jvm.State) : (allAtoms ts).before a st = ts.all (fun c => c.before a st) := by
  induction ts with
  | nil => rfl
  | cons c t ih =>
    show (Jvm.Cond.and c (allAtoms t)).before a st = _
    rw [Jvm.Cond.before_and, ih, List.all_cons]
def words1 : List Jvm.Cond := Jvm.Cond.code x code maxLocals ret :: tables_1
/-- a 'code' word, met by the world's own term for the bytes: nothing is compared byte by byte -/
theorem code_word {y : MethodName} {bytes : ByteArray} {mx : Nat} {rt : Option FieldType} {a : Array Value} {s : State} {m : MethodId} {meth : Method} {c : Code} (h1 : s.methodNamed? y = some m) (h2 : s.vm.method? m = some meth) (h3 : meth.code = some c) (h4 : c.code = bytes)
    (h5 : (c.maxLocals == mx && c.exceptionTable.isEmpty && decide (c.maxStack ≤ mostOperands) && decide (meth.sig.returnType = rt) && !meth.locks && decide (parseMethodDescriptor y.desc = some meth.sig)) = true) : (Jvm.Cond.code y bytes mx rt).before a s = true := by
  simp only [Bool.and_eq_true, beq_iff_eq, Bool.not_eq_true', decide_eq_true_eq] at h5
  obtain ⟨⟨⟨⟨⟨g1, g2⟩, g3⟩, g4⟩, g5⟩, g6⟩ := h5
  simp [Cond.before, Cond.holds, Cond.value, h1, h2, h3, h4, g1, g2, g3, g4, g5, g6]
def isCode : Jvm.Cond → Bool
  | .code _ _ _ _ => true
  | _ => false
theorem all_split {L : List Jvm.Cond} {P : Jvm.Cond → Bool} (h1 : L.all (fun c => isCode c || P c) = true) (h2 : ∀ c ∈ L.filter isCode, P c = true) : L.all P = true := by
  refine List.all_eq_true.mpr fun c hc => ?_
  have h := List.all_eq_true.mp h1 c hc
  rcases Bool.eq_false_or_eq_true (isCode c) with hi | hi
  · exact h2 c (List.mem_filter.mpr ⟨hc, hi⟩)
  · simpa [hi] using h
set_option maxRecDepth 65536 in
theorem w_c0 : (Jvm.Cond.code x code maxLocals ret).before args0 about1 = true := code_word (m := ⟨1, 1⟩) (meth := k1m1) (c := k1c1) (by decide +kernel) rfl rfl rfl (by decide +kernel)
set_option maxRecDepth 65536 in
theorem w_c1 : (Jvm.Cond.code ({ cls := "com/example/plugroot/plugroot/sql/Comparison", name := "holds", desc := "(I)Z" } : Jvm.MethodName) prog_73_method_5_code (2 : Nat) (Option.some Jvm.ClassFile.FieldType.boolean)).before args0 about1 = true := code_word (m := ⟨6, 0⟩) (meth := k6m0) (c := k6c0) (by decide +kernel) rfl rfl rfl (by decide +kernel)
set_option maxRecDepth 65536 in
theorem w_c2 : (Jvm.Cond.code ({ cls := "java/lang/Enum", name := "ordinal", desc := "()I" } : Jvm.MethodName) jdk_37_method_2_code (1 : Nat) (Option.some Jvm.ClassFile.FieldType.int)).before args0 about1 = true := code_word (m := ⟨5, 0⟩) (meth := k5m0) (c := k5c0) (by decide +kernel) rfl rfl rfl (by decide +kernel)
def codes1 : List Jvm.Cond := [Jvm.Cond.code x code maxLocals ret, Jvm.Cond.code ({ cls := "com/example/plugroot/plugroot/sql/Comparison", name := "holds", desc := "(I)Z" } : Jvm.MethodName) prog_73_method_5_code (2 : Nat) (Option.some Jvm.ClassFile.FieldType.boolean), Jvm.Cond.code ({ cls := "java/lang/Enum", name := "ordinal", desc := "()I" } : Jvm.MethodName) jdk_37_method_2_code (1 : Nat) (Option.some Jvm.ClassFile.FieldType.int)]
set_option maxRecDepth 65536 in
theorem codes_eq : words1.filter isCode = codes1 := rfl
theorem w_codes : ∀ c ∈ words1.filter isCode, c.before args0 about1 = true := by
  rw [codes_eq]
  intro c hc
  simp only [codes1, List.mem_cons, List.not_mem_nil, or_false] at hc
  rcases hc with rfl | rfl | rfl
  · exact w_c0
  · exact w_c1
  · exact w_c2
set_option maxRecDepth 65536 in
theorem w_t1 : (words1.take 24).all (fun c => isCode c || c.before args0 about1) = true := by decide +kernel
set_option maxRecDepth 65536 in
theorem w_t2 : (words1.drop 24).all (fun c => isCode c || c.before args0 about1) = true := by decide +kernel
theorem w_tables : (allAtoms (Jvm.Cond.code x code maxLocals ret :: tables_1)).before args0 about1 = true := by
  rw [allAtoms_all]
  show words1.all (fun c => c.before args0 about1) = true
  refine all_split ?_ w_codes
  rw [← List.take_append_drop 24 words1, List.all_append, w_t1, w_t2]
  rfl
set_option maxRecDepth 65536 in
theorem w_case : (Jvm.Cond.and given_1 narrow_1).before args0 about1 = true := by decide +kernel
theorem w_applies : (headSpec (Jvm.Cond.code x code maxLocals ret :: tables_1) room_1).applies x e0.platform about1 = true :=
  (Spec.applies_iff w_frames).mpr ⟨w_running, w_runnable, w_alone, w_named, w_hears, w_ripe, w_room, w_tables⟩
theorem atStart : AtStart classFile x code maxLocals ret World_1 tables_1 room_1 Calls_1 rest_1 Pre_1 launch0 p0 e0 about1 theMethod args0 below0 :=
  ⟨lists_1, trivial, launch0.admits_env _ _ _, launch0.least_env, fairChoices_fair.cas, fairChoices_fair.clock, w_frames, w_args, w_heap, w_applies, trivial, trivial, w_case⟩
end start1
theorem witness_1 : WitnessClaimed_1 := ⟨start1.p0, start1.e0, start1.about1, start1.theMethod, start1.args0, start1.below0, start1.atStart⟩
end Jvm.Pilot.@@N@@
