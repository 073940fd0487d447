import JvmDerived
import JvmDerived.Pilot.@@N@@Statement
import JvmDerived.Pilot.@@N@@Code
set_option linter.unusedVariables false
set_option linter.unusedSimpArgs false
@@BLOCK:NumsL.lean.txt@@
namespace Jvm.RoadKit
open Sem ClassFile Op Lib Jvm.Stand Jvm.Free Jvm.LawKit
section New
variable {p : Program} {l : Launch} {e : Env} {R : Room} {s : State} {m : MethodId} {args : Array Value} {below : List Frame} {meth : Method} {c : Code} {T : State} {locs : List Loc} {cells slots : Nat}
theorem retI (X : Stand p l e R s m args below meth c T locs cells slots) (hx : p.tables.exec = Jvm.exec) {pc : Nat} {Ls : Array Slot} {z : Int32} {rest : List Value} (hret : meth.sig.returnType = some .int) (hd : decode c.code pc = .ok (.ireturn, 1)) {fs : List Frame}
    (hl : ∀ (f : JFrame) (acts : List Action), f.method = m → f.locked = none → f.entered = [] → (doReturn e (T.setTop f) acts (some (.int z))).1 = T.setFrames fs) : Steps p.tables e below (T.setTop (mkF m pc Ls (.int z :: rest))) (T.setFrames fs) :=
  retOut X hx hret rfl (Or.inl ⟨rfl, Or.inl rfl, z, rfl⟩) hd hl
end New
end Jvm.RoadKit
namespace Jvm.Pilot.@@N@@
open Jvm Jvm.ClassFile Sem Op Lib Jvm.Free Jvm.Stand Jvm.LawKit Jvm.RoadKit Bundle Jvm.Pilot.@@N@@.Jvm.D
theorem own_sta_keep {Z : State} {h h' : Heap} {C n d : String} {v : Value} (F : Sta Z h C n d v) (K : Keep h h' []) : Sta Z h' C n d v := by
  obtain ⟨cf, i, k, f, st, cell, h1, h2, h3, h4, h5, h6, h7⟩ := F
  exact ⟨cf, i, k, f, st, cell, h1, h2, h3, h4, K.2.1 _ _ h5 nin0, h6, h7⟩
def own_QI (r : Int32) (Z : State) (h0 : Heap) (n0 : Nat) (v : Option Value) (h : Heap) (L : List Loc) : Prop := v = some (.int r) ∧ Fr n0 L ∧ h = h0
def own_QB (Z : State) (p1 : Int32) (h0 : Heap) (n0 : Nat) (v : Option Value) (h : Heap) (L : List Loc) : Prop := ∃ b : Addr, v = some (.ref b) ∧ Fr n0 L ∧ Keep h0 h [] ∧ h0.size ≤ b
def own_QS (Z : State) (w p1 : Int32) (h0 : Heap) (n0 : Nat) (v : Option Value) (h : Heap) (L : List Loc) : Prop := ∃ b : Addr, v = some (.ref b) ∧ Fr n0 L ∧ Keep h0 h [] ∧ h0.size ≤ b ∧ Exa Z h b "java/lang/String"
def own_QC (Z : State) (a1 a2 : Addr) (p3 : Int32) (h0 : Heap) (n0 : Nat) (v : Option Value) (h : Heap) (L : List Loc) : Prop := v = none ∧ Fr n0 L ∧ Keep h0 h [a1] ∧ Exa Z h a1 "java/lang/String"
def own_QE (Z : State) (p1 : Int32) := own_QI 1 Z
theorem own_byte (x : Int32) : ¬ (255 : Int32) < (x &&& 255) := fun q => by
  have e : (x &&& 255).toInt = x.toInt % 2 ^ 8 := Jvm.Kit.i32_mask x 255 (k := 8) (by decide) (by decide)
  rw [Int32.lt_iff_toInt_lt] at q
  have z : (255 : Int32).toInt = 255 := by decide
  omega
theorem d2_0 : decode jdk_43_method_3_code 0 = .ok (.iload_n 0, 1) := by decide +kernel
theorem d2_1 : decode jdk_43_method_3_code 1 = .ok (.sipush 255, 3) := by decide +kernel
theorem d2_4 : decode jdk_43_method_3_code 4 = .ok (.if_icmp .gt 7, 3) := by decide +kernel
theorem d2_7 : decode jdk_43_method_3_code 7 = .ok (.iconst 1, 1) := by decide +kernel
theorem d2_8 : decode jdk_43_method_3_code 8 = .ok (.goto 4, 3) := by decide +kernel
theorem d2_11 : decode jdk_43_method_3_code 11 = .ok (.iconst 0, 1) := by decide +kernel
theorem d2_12 : decode jdk_43_method_3_code 12 = .ok (.ireturn, 1) := by decide +kernel
theorem pn_2 : plainName "java/lang/StringLatin1" = true := by first | (simp [plainName, overriddenIn]; done) | decide +kernel
theorem ef_2 (m : MethodId) (x0 : Int32) : entryFrame m #[(.int x0)] 1 = mkF m 0 #[.val (.int x0)] [] := by first | (simp [entryFrame, mkF, argsToLocals, Value.category]; done) | rfl
set_option maxRecDepth 65536 in
set_option maxHeartbeats 40000000 in
theorem rm2 (l : Launch) (Z : State) (a0 : Array Value) (hw : ∀ d ∈ tables_1, d.before a0 Z = true) (ws : List Jvm.Cond) (p1 : Int32) (h0 : Heap) (n0 : Nat) (Z0 : n0 ≤ h0.size) (hb1 : ¬ (255 : Int32) < p1) :
    MetFree l (⟨"java/lang/StringLatin1", "canEncode", "(C)Z"⟩ : MethodName) (head1 (Jvm.Cond.code (⟨"java/lang/StringLatin1", "canEncode", "(C)Z"⟩ : MethodName) jdk_43_method_3_code 1 (some .boolean) :: ws) ({ frames := 0, cells := 0, slots := 0, locals := 0 } : Room)) (fun a U => a = #[(.int p1)] ∧ Z.Warmed39 U.vm ∧ U.heap = h0) (fun _ _ _ _ _ => True) (fun _ U o U' => ∃ v L, o = .returned v ∧ own_QE Z p1 h0 n0 v U'.heap L ∧ FrameEnd U o U' L ({ frames := 0, cells := 0, slots := 0, locals := 0 } : Room).cells ({ frames := 0, cells := 0, slots := 0, locals := 0 } : Room).slots) := by
  refine MetFree.of_bodySF (plainFor_of_name pn_2) hisR ?_
  intro p e s m args below meth c s₁ Bd hml0 hP hK
  obtain ⟨rfl, hZ, hh⟩ := hP
  have hx := Bd.exec
  have hby := Bd.bytes
  have hml : c.maxLocals = 1 := hml0
  have hown : s.vm.findClass "java/lang/StringLatin1" = some m.cls := findClass_of_methodNamed Bd.named
  have hnm := (name_of_methodNamed Bd.named Bd.method).1
  have X0 : Stand p l e ({ frames := 0, cells := 0, slots := 0, locals := 0 } : Room) s m #[(.int p1)] below meth c s₁ [] 0 0 := Stand.of_body Bd
  have e0 : s₁.heap = h0 := by rw [← hh, Bd.state]; rfl
  have N0 := Fr.nil n0
  have pre0 : ∀ tq, Steps p.tables e below (s₁.setTop (mkF m 0 #[.val (.int p1)] [])) tq → Steps p.tables e below (s₁.setTop (entryFrame m #[(.int p1)] 1)) tq := fun tq k => castTop (ef_2 m p1) k
  obtain ⟨fs, hr, hrun, hended, hW, hsame⟩ := X0.leave (v := some (.int (1 : Int32))) (fun h => by rw [Bd.returns] at h; cases h)
  refine ⟨_, _, pre0 _ ?_, hrun, hended, _, _, rfl, ?_, ⟨_, rfl⟩, hW, hsame.mono (by decide) (by decide)⟩
  · show Steps p.tables e below (s₁.setTop (mkF m 0 #[.val (.int p1)] [])) _
    refine XS.iloadN X0.here hx rfl (hb hby d2_0) rfl ?_
    show Steps p.tables e below (s₁.setTop (mkF m 1 #[.val (.int p1)] [(.int p1)])) _
    refine XS.sipush X0.here hx rfl (hb hby d2_1) ?_
    show Steps p.tables e below (s₁.setTop (mkF m 4 #[.val (.int p1)] [(.int (255 : Int32)), (.int p1)])) _
    refine XS.icmpNo X0.here hx rfl (hb hby d2_4) rfl (flt hb1).2.2.1 ?_
    show Steps p.tables e below (s₁.setTop (mkF m 7 #[.val (.int p1)] [])) _
    refine XS.iconst X0.here hx rfl (hb hby d2_7) ?_
    show Steps p.tables e below (s₁.setTop (mkF m 8 #[.val (.int p1)] [(.int (1 : Int32))])) _
    refine XS.goto X0.here hx rfl (pc0 := 8) (pc' := 12) rfl (hb hby d2_8) (by decide) (by decide) ?_
    show Steps p.tables e below (s₁.setTop (mkF m 12 #[.val (.int p1)] [(.int (1 : Int32))])) _
    exact retN X0 hx (t := .boolean) Bd.returns (by simp) (hb hby d2_12) hr
  · show own_QE Z p1 h0 n0 _ s₁.heap _
    rw [e0]
    exact ⟨rfl, N0, rfl⟩
theorem d3_0 : decode jdk_43_method_46_code 0 = .ok (.iconst 1, 1) := by decide +kernel
theorem d3_1 : decode jdk_43_method_46_code 1 = .ok (.newarray .byte, 2) := by decide +kernel
theorem d3_3 : decode jdk_43_method_46_code 3 = .ok (.dup, 1) := by decide +kernel
theorem d3_4 : decode jdk_43_method_46_code 4 = .ok (.iconst 0, 1) := by decide +kernel
theorem d3_5 : decode jdk_43_method_46_code 5 = .ok (.iload_n 0, 1) := by decide +kernel
theorem d3_6 : decode jdk_43_method_46_code 6 = .ok (.i2b, 1) := by decide +kernel
theorem d3_7 : decode jdk_43_method_46_code 7 = .ok (.bastore, 1) := by decide +kernel
theorem d3_8 : decode jdk_43_method_46_code 8 = .ok (.areturn, 1) := by decide +kernel
theorem pn_3 : plainName "java/lang/StringLatin1" = true := by first | (simp [plainName, overriddenIn]; done) | decide +kernel
theorem ef_3 (m : MethodId) (x0 : Int32) : entryFrame m #[(.int x0)] 1 = mkF m 0 #[.val (.int x0)] [] := by first | (simp [entryFrame, mkF, argsToLocals, Value.category]; done) | rfl
set_option maxRecDepth 65536 in
set_option maxHeartbeats 40000000 in
theorem rm3 (l : Launch) (Z : State) (a0 : Array Value) (hw : ∀ d ∈ tables_1, d.before a0 Z = true) (ws : List Jvm.Cond) (p1 : Int32) (h0 : Heap) (n0 : Nat) (Z0 : n0 ≤ h0.size) :
    MetFree l (⟨"java/lang/StringLatin1", "toBytes", "(C)[B"⟩ : MethodName) (head1 (Jvm.Cond.code (⟨"java/lang/StringLatin1", "toBytes", "(C)[B"⟩ : MethodName) jdk_43_method_46_code 1 (some (.array .byte)) :: ws) ({ frames := 0, cells := 1, slots := 1, locals := 0 } : Room)) (fun a U => a = #[(.int p1)] ∧ Z.Warmed39 U.vm ∧ U.heap = h0) (fun _ _ _ _ _ => True) (fun _ U o U' => ∃ v L, o = .returned v ∧ own_QB Z p1 h0 n0 v U'.heap L ∧ FrameEnd U o U' L ({ frames := 0, cells := 1, slots := 1, locals := 0 } : Room).cells ({ frames := 0, cells := 1, slots := 1, locals := 0 } : Room).slots) := by
  refine MetFree.of_bodySF (plainFor_of_name pn_3) hisR ?_
  intro p e s m args below meth c s₁ Bd hml0 hP hK
  obtain ⟨rfl, hZ, hh⟩ := hP
  have hx := Bd.exec
  have hby := Bd.bytes
  have hml : c.maxLocals = 1 := hml0
  have hown : s.vm.findClass "java/lang/StringLatin1" = some m.cls := findClass_of_methodNamed Bd.named
  have hnm := (name_of_methodNamed Bd.named Bd.method).1
  have X0 : Stand p l e ({ frames := 0, cells := 1, slots := 1, locals := 0 } : Room) s m #[(.int p1)] below meth c s₁ [] 0 0 := Stand.of_body Bd
  have e0 : s₁.heap = h0 := by rw [← hh, Bd.state]; rfl
  have N0 := Fr.nil n0
  have pre0 : ∀ tq, Steps p.tables e below (s₁.setTop (mkF m 0 #[.val (.int p1)] [])) tq → Steps p.tables e below (s₁.setTop (entryFrame m #[(.int p1)] 1)) tq := fun tq k => castTop (ef_3 m p1) k
  obtain ⟨T1, h1, k1, X1, e1, E1, A1, st1⟩ := newP X0 hx hZ (hw _ (List.mem_of_getElem? (i := 14) rfl)) e0 (g := (mkF m 1 #[.val (.int p1)] [(.int (1 : Int32))])) rfl (hb hby d3_1) rfl (by decide) (cap := 1) (by decide) (by decide) (by decide) (by decide)
  obtain ⟨b1, g1⟩ : ∃ z, z = h0.size := ⟨_, rfl⟩
  rw [← g1] at A1 st1
  have g_b1 : n0 ≤ b1 := Nat.le_trans Z0 (Nat.le_of_eq g1.symm)
  have sz_b1 : h0.size ≤ b1 := Nat.le_trans (Keep.refl h0 []).1 (Nat.le_of_eq g1.symm)
  have z2 := Nat.le_trans Z0 E1.1
  have kp3 := (Keep.refl h0 []).ext E1
  have V_b1 : Arv Z h1 b1 k1 .byte (1 : Int32) [(.int (0 : Int32))] (.int (0 : Int32)) := (Arv.new A1 (by decide)).pad (pad_rep [] (.int (0 : Int32)) 1)
  obtain ⟨clq4, Arq4, cq4, Sq4, nq4, Hq4, Gq4⟩ := id V_b1
  have hiq4 : ¬ ((0 : Int32) < 0 ∨ clq4.slots.size ≤ ((0 : Int32)).toNatClampNeg) := inb_of Sq4 ⟨by decide, by decide⟩
  obtain ⟨T5, h5, X5, e5, W5, st5⟩ := stB X1 hx hZ e1 Arq4 (j := (0 : Int32)) hiq4 (g := (mkF m 7 #[.val (.int p1)] [(.int (p1.toInt8.toInt32)), (.int (0 : Int32)), (.ref b1), (.ref b1)])) rfl rfl (hb hby d3_7)
  have v6 : Arv Z h5 b1 k1 .byte (1 : Int32) [(.int (p1.toInt8.toInt32).toInt8.toInt32)] (.int (0 : Int32)) := Arv.set Arq4 cq4 Sq4 nq4 Hq4 Gq4 (fits_nar_byte _) W5 0 rfl (Nat.le_of_ble_eq_true rfl)
  have kp7 := kp3.wr W5 (Or.inr sz_b1)
  have z8 := Nat.le_trans z2 (Keep.of_wr W5).1
  have N9 := Fr.snoc X5 N0 g_b1
  obtain ⟨fs, hr, hrun, hended, hW, hsame⟩ := X5.leave (v := some (.ref b1)) (fun h => by rw [Bd.returns] at h; cases h)
  refine ⟨_, _, pre0 _ ?_, hrun, hended, _, _, rfl, ?_, ⟨_, rfl⟩, hW, hsame.mono (by decide) (by decide)⟩
  · show Steps p.tables e below (s₁.setTop (mkF m 0 #[.val (.int p1)] [])) _
    refine XS.iconst X0.here hx rfl (hb hby d3_0) ?_
    show Steps p.tables e below (s₁.setTop (mkF m 1 #[.val (.int p1)] [(.int (1 : Int32))])) _
    refine st1 _ ?_
    show Steps p.tables e below (T1.setTop (mkF m 3 #[.val (.int p1)] [(.ref b1)])) _
    refine XS.dup X1.here hx rfl (hb hby d3_3) rfl rfl ?_
    show Steps p.tables e below (T1.setTop (mkF m 4 #[.val (.int p1)] [(.ref b1), (.ref b1)])) _
    refine XS.iconst X1.here hx rfl (hb hby d3_4) ?_
    show Steps p.tables e below (T1.setTop (mkF m 5 #[.val (.int p1)] [(.int (0 : Int32)), (.ref b1), (.ref b1)])) _
    refine XS.iloadN X1.here hx rfl (hb hby d3_5) rfl ?_
    show Steps p.tables e below (T1.setTop (mkF m 6 #[.val (.int p1)] [(.int p1), (.int (0 : Int32)), (.ref b1), (.ref b1)])) _
    refine XS.i2b X1.here hx rfl (hb hby d3_6) rfl ?_
    show Steps p.tables e below (T1.setTop (mkF m 7 #[.val (.int p1)] [(.int (p1.toInt8.toInt32)), (.int (0 : Int32)), (.ref b1), (.ref b1)])) _
    refine st5 _ ?_
    show Steps p.tables e below (T5.setTop (mkF m 8 #[.val (.int p1)] [(.ref b1)])) _
    exact retOut X5 hx Bd.returns rfl (Or.inr (Or.inr (Or.inr (Or.inr ⟨rfl, rfl, rfl⟩)))) (hb hby d3_8) hr
  · show own_QB Z p1 h0 n0 _ T5.heap _
    rw [e5]
    exact ⟨b1, rfl, N9, kp7, sz_b1⟩
theorem d4_0 : decode jdk_42_method_151_code 0 = .ok (.aload_n 0, 1) := by decide +kernel
theorem d4_1 : decode jdk_42_method_151_code 1 = .ok (.invokespecial 1, 3) := by decide +kernel
theorem d4_4 : decode jdk_42_method_151_code 4 = .ok (.aload_n 0, 1) := by decide +kernel
theorem d4_5 : decode jdk_42_method_151_code 5 = .ok (.aload_n 1, 1) := by decide +kernel
theorem d4_6 : decode jdk_42_method_151_code 6 = .ok (.putfield 9, 3) := by decide +kernel
theorem d4_9 : decode jdk_42_method_151_code 9 = .ok (.aload_n 0, 1) := by decide +kernel
theorem d4_10 : decode jdk_42_method_151_code 10 = .ok (.iload_n 2, 1) := by decide +kernel
theorem d4_11 : decode jdk_42_method_151_code 11 = .ok (.putfield 15, 3) := by decide +kernel
theorem d4_14 : decode jdk_42_method_151_code 14 = .ok (.return_, 1) := by decide +kernel
theorem pn_4 : plainName "java/lang/String" = true := by first | (simp [plainName, overriddenIn]; done) | decide +kernel
theorem ef_4 (m : MethodId) (x0 : Addr) (x1 : Addr) (x2 : Int32) : entryFrame m #[(.ref x0), (.ref x1), (.int x2)] 3 = mkF m 0 #[.val (.ref x0), .val (.ref x1), .val (.int x2)] [] := by first | (simp [entryFrame, mkF, argsToLocals, Value.category]; done) | rfl
set_option maxRecDepth 65536 in
set_option maxHeartbeats 40000000 in
theorem rm4 (l : Launch) (Z : State) (a0 : Array Value) (hw : ∀ d ∈ tables_1, d.before a0 Z = true) (ws : List Jvm.Cond) (a1 a2 : Addr) (p3 : Int32) (h0 : Heap) (n0 : Nat) (Z0 : n0 ≤ h0.size) (E_a1 : Exa Z h0 a1 "java/lang/String") (F1 : Fld Z h0 a1 "java/lang/String" "value" "[B" .null) (F2 : Fld Z h0 a1 "java/lang/String" "coder" "B" (.int (0 : Int32))) (g_a1 : n0 ≤ a1) :
    MetFree l (⟨"java/lang/String", "<init>", "([BB)V"⟩ : MethodName) (head1 (Jvm.Cond.code (⟨"java/lang/String", "<init>", "([BB)V"⟩ : MethodName) jdk_42_method_151_code 3 none :: ws) ({ frames := 1, cells := 0, slots := 0, locals := 12 } : Room)) (fun a U => a = #[(.ref a1), (.ref a2), (.int p3)] ∧ Z.Warmed39 U.vm ∧ U.heap = h0) (fun _ _ _ _ _ => True) (fun _ U o U' => ∃ v L, o = .returned v ∧ own_QC Z a1 a2 p3 h0 n0 v U'.heap L ∧ FrameEnd U o U' L ({ frames := 1, cells := 0, slots := 0, locals := 12 } : Room).cells ({ frames := 1, cells := 0, slots := 0, locals := 12 } : Room).slots) := by
  refine MetFree.of_bodySF (plainFor_of_name pn_4) hisR ?_
  intro p e s m args below meth c s₁ Bd hml0 hP hK
  obtain ⟨rfl, hZ, hh⟩ := hP
  have hx := Bd.exec
  have hby := Bd.bytes
  have hml : c.maxLocals = 3 := hml0
  have hown : s.vm.findClass "java/lang/String" = some m.cls := findClass_of_methodNamed Bd.named
  have hnm := (name_of_methodNamed Bd.named Bd.method).1
  have X0 : Stand p l e ({ frames := 1, cells := 0, slots := 0, locals := 12 } : Room) s m #[(.ref a1), (.ref a2), (.int p3)] below meth c s₁ [] 0 0 := Stand.of_body Bd
  have e0 : s₁.heap = h0 := by rw [← hh, Bd.state]; rfl
  have N0 := Fr.nil n0
  have pre0 : ∀ tq, Steps p.tables e below (s₁.setTop (mkF m 0 #[.val (.ref a1), .val (.ref a2), .val (.int p3)] [])) tq → Steps p.tables e below (s₁.setTop (entryFrame m #[(.ref a1), (.ref a2), (.int p3)] 3)) tq := fun tq k => castTop (ef_4 m a1 a2 p3) k
  obtain ⟨T1, X1, e1, st1⟩ := initO X0 hx hZ hown (hw _ (List.mem_of_getElem? (i := 19) rfl)) (hw _ (List.mem_of_getElem? (i := 20) rfl)) (hw _ (List.mem_of_getElem? (i := 21) rfl)) e0 (g := (mkF m 1 #[.val (.ref a1), .val (.ref a2), .val (.int p3)] [(.ref a1)])) rfl (by rw [hml]; rfl) rfl (hb hby d4_1) (by decide) (W := 0) (by show 2 * 0 + _ ≤ _; exact Nat.le_of_eq rfl) (by decide)
  obtain ⟨T2, h2, X2, e2, W2, st2⟩ := putF X1 hx hZ hown (host := "") (Or.inl (hw _ (List.mem_of_getElem? (i := 22) rfl))) Via.refl e1 F1 E_a1 (Or.inr ⟨(hw _ (List.mem_of_getElem? (i := 23) rfl)), rfl, hnm⟩) (hw _ (List.mem_of_getElem? (i := 10) rfl)) (ty := (.array .byte)) (by decide) rfl rfl (g := (mkF m 6 #[.val (.ref a1), .val (.ref a2), .val (.int p3)] [(.ref a2), (.ref a1)])) rfl rfl (hb hby d4_6)
  have f3 := E_a1.wr W2
  have f4 := F1.same W2
  have f5 := F2.other W2 (Or.inr (slot_ne (Or.inr (hw _ (List.mem_of_getElem? (i := 25) rfl))) (Or.inr (hw _ (List.mem_of_getElem? (i := 23) rfl))) (by decide) (t := .byte) (t' := (.array .byte)) (by decide) (by decide)))
  have kp6 := (Keep.refl h0 [a1]).wr W2 (Or.inl (List.mem_of_getElem? (i := 0) rfl))
  have z7 := Nat.le_trans Z0 (Keep.of_wr W2).1
  have N8 := Fr.snoc X2 N0 g_a1
  obtain ⟨T9, h9, X9, e9, W9, st9⟩ := putFN X2 hx hZ hown (hw _ (List.mem_of_getElem? (i := 24) rfl)) Via.refl e2 f5 f3 (Or.inr ⟨(hw _ (List.mem_of_getElem? (i := 25) rfl)), rfl, hnm⟩) (hw _ (List.mem_of_getElem? (i := 10) rfl)) (ty := .byte) (v' := .int p3.toInt8.toInt32) (by decide) rfl (fits_nar_byte _) (g := (mkF m 11 #[.val (.ref a1), .val (.ref a2), .val (.int p3)] [(.int p3), (.ref a1)])) rfl rfl (hb hby d4_11)
  have f10 := f3.wr W9
  have f11 := f4.other W9 (Or.inr (slot_ne (Or.inr (hw _ (List.mem_of_getElem? (i := 23) rfl))) (Or.inr (hw _ (List.mem_of_getElem? (i := 25) rfl))) (by decide) (t := (.array .byte)) (t' := .byte) (by decide) (by decide)))
  have f12 := f5.same W9
  have kp13 := kp6.wr W9 (Or.inl (List.mem_of_getElem? (i := 0) rfl))
  have z14 := Nat.le_trans z7 (Keep.of_wr W9).1
  have N15 := Fr.snoc X9 N8 g_a1
  obtain ⟨fs, hr, hrun, hended, hW, hsame⟩ := X9.leave (v := none) (fun _ => rfl)
  refine ⟨_, _, pre0 _ ?_, hrun, hended, _, _, rfl, ?_, ⟨_, rfl⟩, hW, hsame.mono (by decide) (by decide)⟩
  · show Steps p.tables e below (s₁.setTop (mkF m 0 #[.val (.ref a1), .val (.ref a2), .val (.int p3)] [])) _
    refine XS.aloadN X0.here hx rfl (hb hby d4_0) rfl rfl ?_
    show Steps p.tables e below (s₁.setTop (mkF m 1 #[.val (.ref a1), .val (.ref a2), .val (.int p3)] [(.ref a1)])) _
    refine st1 _ ?_
    show Steps p.tables e below (T1.setTop (mkF m 4 #[.val (.ref a1), .val (.ref a2), .val (.int p3)] [])) _
    refine XS.aloadN X1.here hx rfl (hb hby d4_4) rfl rfl ?_
    show Steps p.tables e below (T1.setTop (mkF m 5 #[.val (.ref a1), .val (.ref a2), .val (.int p3)] [(.ref a1)])) _
    refine XS.aloadN X1.here hx rfl (hb hby d4_5) rfl rfl ?_
    show Steps p.tables e below (T1.setTop (mkF m 6 #[.val (.ref a1), .val (.ref a2), .val (.int p3)] [(.ref a2), (.ref a1)])) _
    refine st2 _ ?_
    show Steps p.tables e below (T2.setTop (mkF m 9 #[.val (.ref a1), .val (.ref a2), .val (.int p3)] [])) _
    refine XS.aloadN X2.here hx rfl (hb hby d4_9) rfl rfl ?_
    show Steps p.tables e below (T2.setTop (mkF m 10 #[.val (.ref a1), .val (.ref a2), .val (.int p3)] [(.ref a1)])) _
    refine XS.iloadN X2.here hx rfl (hb hby d4_10) rfl ?_
    show Steps p.tables e below (T2.setTop (mkF m 11 #[.val (.ref a1), .val (.ref a2), .val (.int p3)] [(.int p3), (.ref a1)])) _
    refine st9 _ ?_
    show Steps p.tables e below (T9.setTop (mkF m 14 #[.val (.ref a1), .val (.ref a2), .val (.int p3)] [])) _
    exact X9.returnOut hx Bd.returns (hb hby d4_14) hr
  · show own_QC Z a1 a2 p3 h0 n0 _ T9.heap _
    rw [e9]
    exact ⟨rfl, N15, kp13, f10⟩
theorem pd_0 : parseMethodDescriptor "(C)Ljava/lang/String;" = some ⟨[.char], some (.object "java/lang/String")⟩ := by decide +kernel
theorem pd_1 : parseMethodDescriptor "(C)Z" = some ⟨[.char], some .boolean⟩ := by decide +kernel
theorem pd_2 : parseMethodDescriptor "(C)[B" = some ⟨[.char], some (.array .byte)⟩ := by decide +kernel
theorem pd_3 : parseMethodDescriptor "([BB)V" = some ⟨[(.array .byte), .byte], none⟩ := by decide +kernel
theorem d1_0 : decode jdk_42_method_139_code 0 = .ok (.getstatic 38, 3) := by decide +kernel
theorem d1_3 : decode jdk_42_method_139_code 3 = .ok (.ifCond .eq 23, 3) := by decide +kernel
theorem d1_6 : decode jdk_42_method_139_code 6 = .ok (.iload_n 0, 1) := by decide +kernel
theorem d1_7 : decode jdk_42_method_139_code 7 = .ok (.invokestatic 1015, 3) := by decide +kernel
theorem d1_10 : decode jdk_42_method_139_code 10 = .ok (.ifCond .eq 16, 3) := by decide +kernel
theorem d1_13 : decode jdk_42_method_139_code 13 = .ok (.new 10, 3) := by decide +kernel
theorem d1_16 : decode jdk_42_method_139_code 16 = .ok (.dup, 1) := by decide +kernel
theorem d1_17 : decode jdk_42_method_139_code 17 = .ok (.iload_n 0, 1) := by decide +kernel
theorem d1_18 : decode jdk_42_method_139_code 18 = .ok (.invokestatic 1018, 3) := by decide +kernel
theorem d1_21 : decode jdk_42_method_139_code 21 = .ok (.iconst 0, 1) := by decide +kernel
theorem d1_22 : decode jdk_42_method_139_code 22 = .ok (.invokespecial 209, 3) := by decide +kernel
theorem d1_25 : decode jdk_42_method_139_code 25 = .ok (.areturn, 1) := by decide +kernel
theorem d1_26 : decode jdk_42_method_139_code 26 = .ok (.new 10, 3) := by decide +kernel
theorem d1_29 : decode jdk_42_method_139_code 29 = .ok (.dup, 1) := by decide +kernel
theorem d1_30 : decode jdk_42_method_139_code 30 = .ok (.iload_n 0, 1) := by decide +kernel
theorem d1_31 : decode jdk_42_method_139_code 31 = .ok (.invokestatic 1021, 3) := by decide +kernel
theorem d1_34 : decode jdk_42_method_139_code 34 = .ok (.iconst 1, 1) := by decide +kernel
theorem d1_35 : decode jdk_42_method_139_code 35 = .ok (.invokespecial 209, 3) := by decide +kernel
theorem d1_38 : decode jdk_42_method_139_code 38 = .ok (.areturn, 1) := by decide +kernel
theorem pn_1 : plainName "java/lang/String" = true := by first | (simp [plainName, overriddenIn]; done) | decide +kernel
theorem ef_1 (m : MethodId) (x0 : Int32) : entryFrame m #[(.int x0)] 1 = mkF m 0 #[.val (.int x0)] [] := by first | (simp [entryFrame, mkF, argsToLocals, Value.category]; done) | rfl
set_option maxRecDepth 65536 in
set_option maxHeartbeats 40000000 in
theorem rm1 (l : Launch) (Z : State) (a0 : Array Value) (hw : ∀ d ∈ tables_1, d.before a0 Z = true) (ws : List Jvm.Cond) (p1 w : Int32) (h0 : Heap) (n0 : Nat) (Z0 : n0 ≤ h0.size) (S0 : Sta Z h0 "java/lang/String" "COMPACT_STRINGS" "Z" (.int w)) (hw0 : ¬ w = (0 : Int32)) (hb1 : ¬ (255 : Int32) < p1) :
    MetFree l (⟨"java/lang/String", "valueOf", "(C)Ljava/lang/String;"⟩ : MethodName) (head1 (Jvm.Cond.code (⟨"java/lang/String", "valueOf", "(C)Ljava/lang/String;"⟩ : MethodName) jdk_42_method_139_code 1 (some (.object "java/lang/String")) :: ws) ({ frames := 2, cells := 2, slots := 5, locals := 40 } : Room)) (fun a U => a = #[(.int p1)] ∧ Z.Warmed39 U.vm ∧ U.heap = h0) (fun _ _ _ _ _ => True) (fun _ U o U' => ∃ v L, o = .returned v ∧ own_QS Z w p1 h0 n0 v U'.heap L ∧ FrameEnd U o U' L ({ frames := 2, cells := 2, slots := 5, locals := 40 } : Room).cells ({ frames := 2, cells := 2, slots := 5, locals := 40 } : Room).slots) := by
  refine MetFree.of_bodySF (plainFor_of_name pn_1) hisR ?_
  intro p e s m args below meth c s₁ Bd hml0 hP hK
  obtain ⟨rfl, hZ, hh⟩ := hP
  have hx := Bd.exec
  have hby := Bd.bytes
  have hml : c.maxLocals = 1 := hml0
  have hown : s.vm.findClass "java/lang/String" = some m.cls := findClass_of_methodNamed Bd.named
  have hnm := (name_of_methodNamed Bd.named Bd.method).1
  have X0 : Stand p l e ({ frames := 2, cells := 2, slots := 5, locals := 40 } : Room) s m #[(.int p1)] below meth c s₁ [] 0 0 := Stand.of_body Bd
  have e0 : s₁.heap = h0 := by rw [← hh, Bd.state]; rfl
  have N0 := Fr.nil n0
  have pre0 : ∀ tq, Steps p.tables e below (s₁.setTop (mkF m 0 #[.val (.int p1)] [])) tq → Steps p.tables e below (s₁.setTop (entryFrame m #[(.int p1)] 1)) tq := fun tq k => castTop (ef_1 m p1) k
  obtain ⟨T1, X1, e1, st1⟩ := getS2 X0 hx hZ hown (host := "") (Or.inl (hw _ (List.mem_of_getElem? (i := 4) rfl))) Via.refl e0 S0 (g := (mkF m 0 #[.val (.int p1)] [])) rfl (hb hby d1_0)
  obtain ⟨_, _, ⟨T2, L2, k2, n2⟩, -, X2, ⟨Lc2, hQ2, l2, y2, z2⟩, st2⟩ := Jvm.LawKit.callS X1 hx (y := (⟨"java/lang/StringLatin1", "canEncode", "(C)Z"⟩ : MethodName)) hown (mvT hZ (hw _ (List.mem_of_getElem? (i := 5) rfl))) (mvT hZ (hw _ (List.mem_of_getElem? (i := 6) rfl))) (mvT hZ (hw _ (List.mem_of_getElem? (i := 7) rfl))) (mvT hZ (hw _ (List.mem_of_getElem? (i := 8) rfl))) (by decide) (backOf (W := 0) (rm2 l Z a0 hw [] p1 h0 n0 Z0 hb1) hZ (hw _ (List.mem_of_getElem? (i := 8) rfl)) (hw _ (List.mem_of_getElem? (i := 7) rfl)) (by decide) (by decide)) (g := (mkF m 7 #[.val (.int p1)] [(.int p1)])) rfl (by rw [hml]; rfl) (argsL := [(.int p1)]) (rest := []) (lenOf pd_1 rfl) rfl (by show 2 * 0 + _ ≤ _; exact Nat.le_of_eq rfl) (hb hby d1_7) (fun _ _ => ⟨rfl, e1, (by decide : 0 + 0 ≤ _), (by decide : 0 + 0 ≤ _)⟩)
  dsimp only [Pt.U, Pt.locs, Pt.cells, Pt.slots] at X2 l2 y2 z2 st2 hQ2
  subst l2 y2 z2
  obtain ⟨rfl, N2q, e2⟩ := hQ2
  have N2 := Fr.app N0 N2q
  obtain ⟨T3, h3, X3, e3, E3, A3, D3, U3, st3⟩ := newO X2 hx hZ hown (hw _ (List.mem_of_getElem? (i := 9) rfl)) (hw _ (List.mem_of_getElem? (i := 10) rfl)) (hw _ (List.mem_of_getElem? (i := 2) rfl)) e2 (g := (mkF m 13 #[.val (.int p1)] [])) rfl (hb hby d1_13) (by decide) (by decide)
  obtain ⟨b3, g3⟩ : ∃ z, z = h0.size := ⟨_, rfl⟩
  rw [← g3] at A3 D3 U3 st3
  have g_b3 : n0 ≤ b3 := Nat.le_trans Z0 (Nat.le_of_eq g3.symm)
  have sz_b3 : h0.size ≤ b3 := Nat.le_trans (Keep.refl h0 []).1 (Nat.le_of_eq g3.symm)
  have f4 := S0.ext E3
  have z5 := Nat.le_trans Z0 E3.1
  have kp6 := (Keep.refl h0 []).ext E3
  have F_value_b3 : Fld Z h3 b3 "java/lang/String" "value" "[B" .null := D3 (Or.inr (hw _ (List.mem_of_getElem? (i := 23) rfl))) (ty := (.array .byte)) (by decide)
  have F_coder_b3 : Fld Z h3 b3 "java/lang/String" "coder" "B" (.int (0 : Int32)) := D3 (Or.inr (hw _ (List.mem_of_getElem? (i := 25) rfl))) (ty := .byte) (by decide)
  obtain ⟨_, _, ⟨T7, L7, k7, n7⟩, -, X7, ⟨Lc7, hQ7, l7, y7, z7⟩, st7⟩ := Jvm.LawKit.callS X3 hx (y := (⟨"java/lang/StringLatin1", "toBytes", "(C)[B"⟩ : MethodName)) hown (mvT hZ (hw _ (List.mem_of_getElem? (i := 11) rfl))) (mvT hZ (hw _ (List.mem_of_getElem? (i := 12) rfl))) (mvT hZ (hw _ (List.mem_of_getElem? (i := 7) rfl))) (mvT hZ (hw _ (List.mem_of_getElem? (i := 13) rfl))) (by decide) (backOf (W := 2) (rm3 l Z a0 hw [] p1 h3 n0 z5) hZ (hw _ (List.mem_of_getElem? (i := 13) rfl)) (hw _ (List.mem_of_getElem? (i := 7) rfl)) (by decide) (by decide)) (g := (mkF m 18 #[.val (.int p1)] [(.int p1), (.ref b3), (.ref b3)])) rfl (by rw [hml]; rfl) (argsL := [(.int p1)]) (rest := [(.ref b3), (.ref b3)]) (lenOf pd_2 rfl) rfl (by show 2 * 0 + _ ≤ _; exact Nat.le_of_eq rfl) (hb hby d1_18) (fun _ _ => ⟨rfl, e3, (by decide : 1 + 1 ≤ _), (by decide : 4 + 1 ≤ _)⟩)
  dsimp only [Pt.U, Pt.locs, Pt.cells, Pt.slots] at X7 l7 y7 z7 st7 hQ7
  subst l7 y7 z7
  obtain ⟨b7, rfl, N7q, K7, gb7⟩ := hQ7
  have N7 := Fr.app N2 N7q
  have f8 := own_sta_keep f4 K7
  have f9 := A3.keep K7
  have f10 := F_value_b3.keep K7 nin0
  have f11 := F_coder_b3.keep K7 nin0
  have z12 := Nat.le_trans z5 K7.1
  have kp13 := Keep.trans kp6 K7 all0
  obtain ⟨_, _, ⟨T14, L14, k14, n14⟩, -, X14, ⟨Lc14, hQ14, l14, y14, z14⟩, st14⟩ := X7.specialBack hx (y := (⟨"java/lang/String", "<init>", "([BB)V"⟩ : MethodName)) rfl hown (mvT hZ (hw _ (List.mem_of_getElem? (i := 15) rfl))) (mvT hZ (hw _ (List.mem_of_getElem? (i := 16) rfl))) (mvT hZ (hw _ (List.mem_of_getElem? (i := 18) rfl))) (by decide) (backOf (W := 1) (rm4 l Z a0 hw [] b3 b7 (0 : Int32) T7.heap n0 z12 f9 f10 f11 g_b3) hZ (hw _ (List.mem_of_getElem? (i := 18) rfl)) (hw _ (List.mem_of_getElem? (i := 2) rfl)) (by decide) (by decide)) (g := (mkF m 22 #[.val (.int p1)] [(.int (0 : Int32)), (.ref b7), (.ref b3), (.ref b3)])) rfl (by rw [hml]; rfl) (Steps.refl _) (a := b3) (argsL := [(.ref b7), (.int (0 : Int32))]) (rest := [(.ref b3)]) (lenOf pd_3 rfl) rfl (by show 2 * 0 + _ ≤ _; exact Nat.le_of_eq rfl) (hb hby d1_22) (fun _ _ => ⟨rfl, rfl, (by decide : 2 + 0 ≤ _), (by decide : 5 + 0 ≤ _)⟩)
  dsimp only [Pt.U, Pt.locs, Pt.cells, Pt.slots] at X14 l14 y14 z14 st14 hQ14
  subst l14 y14 z14
  obtain ⟨rfl, N14q, K14, Eo14⟩ := hQ14
  have N14 := Fr.app N7 N14q
  have f15 := f9.keep K14
  have z16 := Nat.le_trans z12 K14.1
  have kp17 := Keep.trans kp13 K14 (allS (Or.inr sz_b3) all0)
  obtain ⟨fs, hr, hrun, hended, hW, hsame⟩ := X14.leave (v := some (.ref b3)) (fun h => by rw [Bd.returns] at h; cases h)
  refine ⟨_, _, pre0 _ ?_, hrun, hended, _, _, rfl, ?_, ⟨_, rfl⟩, hW, hsame.mono (by decide) (by decide)⟩
  · show Steps p.tables e below (s₁.setTop (mkF m 0 #[.val (.int p1)] [])) _
    refine st1 _ ?_
    show Steps p.tables e below (T1.setTop (mkF m 3 #[.val (.int p1)] [(.int w)])) _
    refine XS.ifNo X1.here hx rfl (hb hby d1_3) rfl ((if0 _ _).trans (feq hw0).1) ?_
    show Steps p.tables e below (T1.setTop (mkF m 6 #[.val (.int p1)] [])) _
    refine XS.iloadN X1.here hx rfl (hb hby d1_6) rfl ?_
    show Steps p.tables e below (T1.setTop (mkF m 7 #[.val (.int p1)] [(.int p1)])) _
    refine st2 _ ?_
    show Steps p.tables e below (T2.setTop (mkF m 10 #[.val (.int p1)] [(.int (1 : Int32))])) _
    refine XS.ifNo X2.here hx rfl (hb hby d1_10) rfl ((if0 _ _).trans (feq (by decide : ¬ ((1 : Int32) = (0 : Int32)))).1) ?_
    show Steps p.tables e below (T2.setTop (mkF m 13 #[.val (.int p1)] [])) _
    refine st3 _ ?_
    show Steps p.tables e below (T3.setTop (mkF m 16 #[.val (.int p1)] [(.ref b3)])) _
    refine XS.dup X3.here hx rfl (hb hby d1_16) rfl rfl ?_
    show Steps p.tables e below (T3.setTop (mkF m 17 #[.val (.int p1)] [(.ref b3), (.ref b3)])) _
    refine XS.iloadN X3.here hx rfl (hb hby d1_17) rfl ?_
    show Steps p.tables e below (T3.setTop (mkF m 18 #[.val (.int p1)] [(.int p1), (.ref b3), (.ref b3)])) _
    refine st7 _ ?_
    show Steps p.tables e below (T7.setTop (mkF m 21 #[.val (.int p1)] [(.ref b7), (.ref b3), (.ref b3)])) _
    refine XS.iconst X7.here hx rfl (hb hby d1_21) ?_
    show Steps p.tables e below (T7.setTop (mkF m 22 #[.val (.int p1)] [(.int (0 : Int32)), (.ref b7), (.ref b3), (.ref b3)])) _
    refine st14.trans ?_
    show Steps p.tables e below (T14.setTop (mkF m 25 #[.val (.int p1)] [(.ref b3)])) _
    exact retOut X14 hx Bd.returns rfl (Or.inr (Or.inr (Or.inr (Or.inr ⟨rfl, rfl, rfl⟩)))) (hb hby d1_25) hr
  · show own_QS Z w p1 h0 n0 _ T14.heap _
    exact ⟨b3, rfl, N14, kp17, sz_b3, Eo14⟩
def own_QR (Z : State) (a1 : Addr) (p5 p6 : Int32) (h0 : Heap) (n0 : Nat) (v : Option Value) (h : Heap) (L : List Loc) : Prop := v = none ∧ Fr n0 L ∧ Keep h0 h [a1] ∧ Exa Z h a1 "com/example/hatchd/hatchd/server/RequestReader$Request" ∧ Fld Z h a1 "com/example/hatchd/hatchd/server/RequestReader$Request" "http10" "Z" (.int (p5 &&& 1)) ∧ Fld Z h a1 "com/example/hatchd/hatchd/server/RequestReader$Request" "close" "Z" (.int (p6 &&& 1))
theorem d6_0 : decode prog_41_method_1_code 0 = .ok (.aload_n 0, 1) := by decide +kernel
theorem d6_1 : decode prog_41_method_1_code 1 = .ok (.invokespecial 1, 3) := by decide +kernel
theorem d6_4 : decode prog_41_method_1_code 4 = .ok (.aload_n 0, 1) := by decide +kernel
theorem d6_5 : decode prog_41_method_1_code 5 = .ok (.aload_n 1, 1) := by decide +kernel
theorem d6_6 : decode prog_41_method_1_code 6 = .ok (.putfield 7, 3) := by decide +kernel
theorem d6_9 : decode prog_41_method_1_code 9 = .ok (.aload_n 0, 1) := by decide +kernel
theorem d6_10 : decode prog_41_method_1_code 10 = .ok (.aload_n 2, 1) := by decide +kernel
theorem d6_11 : decode prog_41_method_1_code 11 = .ok (.putfield 13, 3) := by decide +kernel
theorem d6_14 : decode prog_41_method_1_code 14 = .ok (.aload_n 0, 1) := by decide +kernel
theorem d6_15 : decode prog_41_method_1_code 15 = .ok (.aload_n 3, 1) := by decide +kernel
theorem d6_16 : decode prog_41_method_1_code 16 = .ok (.putfield 16, 3) := by decide +kernel
theorem d6_19 : decode prog_41_method_1_code 19 = .ok (.aload_n 0, 1) := by decide +kernel
theorem d6_20 : decode prog_41_method_1_code 20 = .ok (.iload 4, 2) := by decide +kernel
theorem d6_22 : decode prog_41_method_1_code 22 = .ok (.putfield 19, 3) := by decide +kernel
theorem d6_25 : decode prog_41_method_1_code 25 = .ok (.aload_n 0, 1) := by decide +kernel
theorem d6_26 : decode prog_41_method_1_code 26 = .ok (.iload 5, 2) := by decide +kernel
theorem d6_28 : decode prog_41_method_1_code 28 = .ok (.putfield 23, 3) := by decide +kernel
theorem d6_31 : decode prog_41_method_1_code 31 = .ok (.aload_n 0, 1) := by decide +kernel
theorem d6_32 : decode prog_41_method_1_code 32 = .ok (.iload 6, 2) := by decide +kernel
theorem d6_34 : decode prog_41_method_1_code 34 = .ok (.putfield 26, 3) := by decide +kernel
theorem d6_37 : decode prog_41_method_1_code 37 = .ok (.aload_n 0, 1) := by decide +kernel
theorem d6_38 : decode prog_41_method_1_code 38 = .ok (.lload 7, 2) := by decide +kernel
theorem d6_40 : decode prog_41_method_1_code 40 = .ok (.putfield 29, 3) := by decide +kernel
theorem d6_43 : decode prog_41_method_1_code 43 = .ok (.aload_n 0, 1) := by decide +kernel
theorem d6_44 : decode prog_41_method_1_code 44 = .ok (.iload 9, 2) := by decide +kernel
theorem d6_46 : decode prog_41_method_1_code 46 = .ok (.putfield 33, 3) := by decide +kernel
theorem d6_49 : decode prog_41_method_1_code 49 = .ok (.aload_n 0, 1) := by decide +kernel
theorem d6_50 : decode prog_41_method_1_code 50 = .ok (.aload 10, 2) := by decide +kernel
theorem d6_52 : decode prog_41_method_1_code 52 = .ok (.putfield 36, 3) := by decide +kernel
theorem d6_55 : decode prog_41_method_1_code 55 = .ok (.return_, 1) := by decide +kernel
theorem pn_6 : plainName "com/example/hatchd/hatchd/server/RequestReader$Request" = true := by first | (simp [plainName, overriddenIn]; done) | decide +kernel
theorem ef_6_vvvnvvvvvn (m : MethodId) (x0 : Addr) (x1 : Addr) (x2 : Addr) (x4 : Int32) (x5 : Int32) (x6 : Int32) (x7 : Int64) (x8 : Int32) : entryFrame m #[(.ref x0), (.ref x1), (.ref x2), .null, (.int x4), (.int x5), (.int x6), (.long x7), (.int x8), .null] 11 = mkF m 0 #[.val (.ref x0), .val (.ref x1), .val (.ref x2), .val .null, .val (.int x4), .val (.int x5), .val (.int x6), .val (.long x7), .second, .val (.int x8), .val .null] [] := by first | (simp [entryFrame, mkF, argsToLocals, Value.category]; done) | rfl
set_option maxRecDepth 65536 in
set_option maxHeartbeats 40000000 in
theorem rm6 (l : Launch) (Z : State) (a0 : Array Value) (hw : ∀ d ∈ tables_1, d.before a0 Z = true) (ws : List Jvm.Cond) (a1 a2 a3 : Addr) (p5 p6 p7 : Int32) (q8 : Int64) (p9 : Int32) (h0 : Heap) (n0 : Nat) (Z0 : n0 ≤ h0.size) (E_a1 : Exa Z h0 a1 "com/example/hatchd/hatchd/server/RequestReader$Request") (F_method : Fld Z h0 a1 "com/example/hatchd/hatchd/server/RequestReader$Request" "method" "Ljava/lang/String;" .null) (F_path : Fld Z h0 a1 "com/example/hatchd/hatchd/server/RequestReader$Request" "path" "Ljava/lang/String;" .null) (F_query : Fld Z h0 a1 "com/example/hatchd/hatchd/server/RequestReader$Request" "query" "Ljava/lang/String;" .null) (F_http10 : Fld Z h0 a1 "com/example/hatchd/hatchd/server/RequestReader$Request" "http10" "Z" (.int (0 : Int32))) (F_close : Fld Z h0 a1 "com/example/hatchd/hatchd/server/RequestReader$Request" "close" "Z" (.int (0 : Int32))) (F_chunked : Fld Z h0 a1 "com/example/hatchd/hatchd/server/RequestReader$Request" "chunked" "Z" (.int (0 : Int32))) (F_contentLength : Fld Z h0 a1 "com/example/hatchd/hatchd/server/RequestReader$Request" "contentLength" "J" (.long (0 : Int64))) (F_expectsContinue : Fld Z h0 a1 "com/example/hatchd/hatchd/server/RequestReader$Request" "expectsContinue" "Z" (.int (0 : Int32))) (F_body : Fld Z h0 a1 "com/example/hatchd/hatchd/server/RequestReader$Request" "body" "[B" .null) (g_a1 : n0 ≤ a1) :
    MetFree l (⟨"com/example/hatchd/hatchd/server/RequestReader$Request", "<init>", "(Ljava/lang/String;Ljava/lang/String;Ljava/lang/String;ZZZJZ[B)V"⟩ : MethodName) (head1 (Jvm.Cond.code (⟨"com/example/hatchd/hatchd/server/RequestReader$Request", "<init>", "(Ljava/lang/String;Ljava/lang/String;Ljava/lang/String;ZZZJZ[B)V"⟩ : MethodName) prog_41_method_1_code 11 none :: ws) ({ frames := 1, cells := 0, slots := 0, locals := 12 } : Room)) (fun a U => a = #[(.ref a1), (.ref a2), (.ref a3), .null, (.int p5), (.int p6), (.int p7), (.long q8), (.int p9), .null] ∧ Z.Warmed39 U.vm ∧ U.heap = h0) (fun _ _ _ _ _ => True) (fun _ U o U' => ∃ v L, o = .returned v ∧ own_QR Z a1 p5 p6 h0 n0 v U'.heap L ∧ FrameEnd U o U' L ({ frames := 1, cells := 0, slots := 0, locals := 12 } : Room).cells ({ frames := 1, cells := 0, slots := 0, locals := 12 } : Room).slots) := by
  refine MetFree.of_bodySF (plainFor_of_name pn_6) hisR ?_
  intro p e s m args below meth c s₁ Bd hml0 hP hK
  obtain ⟨rfl, hZ, hh⟩ := hP
  have hx := Bd.exec
  have hby := Bd.bytes
  have hml : c.maxLocals = 11 := hml0
  have hown : s.vm.findClass "com/example/hatchd/hatchd/server/RequestReader$Request" = some m.cls := findClass_of_methodNamed Bd.named
  have hnm := (name_of_methodNamed Bd.named Bd.method).1
  have X0 : Stand p l e ({ frames := 1, cells := 0, slots := 0, locals := 12 } : Room) s m #[(.ref a1), (.ref a2), (.ref a3), .null, (.int p5), (.int p6), (.int p7), (.long q8), (.int p9), .null] below meth c s₁ [] 0 0 := Stand.of_body Bd
  have e0 : s₁.heap = h0 := by rw [← hh, Bd.state]; rfl
  have N0 := Fr.nil n0
  have pre0 : ∀ tq, Steps p.tables e below (s₁.setTop (mkF m 0 #[.val (.ref a1), .val (.ref a2), .val (.ref a3), .val .null, .val (.int p5), .val (.int p6), .val (.int p7), .val (.long q8), .second, .val (.int p9), .val .null] [])) tq → Steps p.tables e below (s₁.setTop (entryFrame m #[(.ref a1), (.ref a2), (.ref a3), .null, (.int p5), (.int p6), (.int p7), (.long q8), (.int p9), .null] 11)) tq := fun tq k => castTop (ef_6_vvvnvvvvvn m a1 a2 a3 p5 p6 p7 q8 p9) k
  obtain ⟨T1, X1, e1, st1⟩ := initO X0 hx hZ hown (hw _ (List.mem_of_getElem? (i := 32) rfl)) (hw _ (List.mem_of_getElem? (i := 20) rfl)) (hw _ (List.mem_of_getElem? (i := 21) rfl)) e0 (g := (mkF m 1 #[.val (.ref a1), .val (.ref a2), .val (.ref a3), .val .null, .val (.int p5), .val (.int p6), .val (.int p7), .val (.long q8), .second, .val (.int p9), .val .null] [(.ref a1)])) rfl (by rw [hml]; rfl) rfl (hb hby d6_1) (by decide) (W := 0) (by show 2 * 0 + _ ≤ _; exact Nat.le_of_eq rfl) (by decide)
  obtain ⟨T2, h2, X2, e2, W2, st2⟩ := putF X1 hx hZ hown (host := "") (Or.inl (hw _ (List.mem_of_getElem? (i := 33) rfl))) Via.refl e1 F_method E_a1 (Or.inr ⟨(hw _ (List.mem_of_getElem? (i := 34) rfl)), rfl, hnm⟩) (hw _ (List.mem_of_getElem? (i := 27) rfl)) (ty := (.object "java/lang/String")) (by decide) rfl rfl (g := (mkF m 6 #[.val (.ref a1), .val (.ref a2), .val (.ref a3), .val .null, .val (.int p5), .val (.int p6), .val (.int p7), .val (.long q8), .second, .val (.int p9), .val .null] [(.ref a2), (.ref a1)])) rfl rfl (hb hby d6_6)
  have f3 := E_a1.wr W2
  have f4 := F_method.same W2
  have f5 := F_path.other W2 (Or.inr (slot_ne (Or.inr (hw _ (List.mem_of_getElem? (i := 36) rfl))) (Or.inr (hw _ (List.mem_of_getElem? (i := 34) rfl))) (by decide) (t := (.object "java/lang/String")) (t' := (.object "java/lang/String")) (by decide) (by decide)))
  have f6 := F_query.other W2 (Or.inr (slot_ne (Or.inr (hw _ (List.mem_of_getElem? (i := 38) rfl))) (Or.inr (hw _ (List.mem_of_getElem? (i := 34) rfl))) (by decide) (t := (.object "java/lang/String")) (t' := (.object "java/lang/String")) (by decide) (by decide)))
  have f7 := F_http10.other W2 (Or.inr (slot_ne (Or.inr (hw _ (List.mem_of_getElem? (i := 40) rfl))) (Or.inr (hw _ (List.mem_of_getElem? (i := 34) rfl))) (by decide) (t := .boolean) (t' := (.object "java/lang/String")) (by decide) (by decide)))
  have f8 := F_close.other W2 (Or.inr (slot_ne (Or.inr (hw _ (List.mem_of_getElem? (i := 42) rfl))) (Or.inr (hw _ (List.mem_of_getElem? (i := 34) rfl))) (by decide) (t := .boolean) (t' := (.object "java/lang/String")) (by decide) (by decide)))
  have f9 := F_chunked.other W2 (Or.inr (slot_ne (Or.inr (hw _ (List.mem_of_getElem? (i := 44) rfl))) (Or.inr (hw _ (List.mem_of_getElem? (i := 34) rfl))) (by decide) (t := .boolean) (t' := (.object "java/lang/String")) (by decide) (by decide)))
  have f10 := F_contentLength.other W2 (Or.inr (slot_ne (Or.inr (hw _ (List.mem_of_getElem? (i := 46) rfl))) (Or.inr (hw _ (List.mem_of_getElem? (i := 34) rfl))) (by decide) (t := .long) (t' := (.object "java/lang/String")) (by decide) (by decide)))
  have f11 := F_expectsContinue.other W2 (Or.inr (slot_ne (Or.inr (hw _ (List.mem_of_getElem? (i := 48) rfl))) (Or.inr (hw _ (List.mem_of_getElem? (i := 34) rfl))) (by decide) (t := .boolean) (t' := (.object "java/lang/String")) (by decide) (by decide)))
  have f12 := F_body.other W2 (Or.inr (slot_ne (Or.inr (hw _ (List.mem_of_getElem? (i := 50) rfl))) (Or.inr (hw _ (List.mem_of_getElem? (i := 34) rfl))) (by decide) (t := (.array .byte)) (t' := (.object "java/lang/String")) (by decide) (by decide)))
  have kp13 := (Keep.refl h0 [a1]).wr W2 (Or.inl (List.mem_of_getElem? (i := 0) rfl))
  have z14 := Nat.le_trans Z0 (Keep.of_wr W2).1
  have N15 := Fr.snoc X2 N0 g_a1
  obtain ⟨T16, h16, X16, e16, W16, st16⟩ := putF X2 hx hZ hown (host := "") (Or.inl (hw _ (List.mem_of_getElem? (i := 35) rfl))) Via.refl e2 f5 f3 (Or.inr ⟨(hw _ (List.mem_of_getElem? (i := 36) rfl)), rfl, hnm⟩) (hw _ (List.mem_of_getElem? (i := 27) rfl)) (ty := (.object "java/lang/String")) (by decide) rfl rfl (g := (mkF m 11 #[.val (.ref a1), .val (.ref a2), .val (.ref a3), .val .null, .val (.int p5), .val (.int p6), .val (.int p7), .val (.long q8), .second, .val (.int p9), .val .null] [(.ref a3), (.ref a1)])) rfl rfl (hb hby d6_11)
  have f17 := f3.wr W16
  have f18 := f4.other W16 (Or.inr (slot_ne (Or.inr (hw _ (List.mem_of_getElem? (i := 34) rfl))) (Or.inr (hw _ (List.mem_of_getElem? (i := 36) rfl))) (by decide) (t := (.object "java/lang/String")) (t' := (.object "java/lang/String")) (by decide) (by decide)))
  have f19 := f5.same W16
  have f20 := f6.other W16 (Or.inr (slot_ne (Or.inr (hw _ (List.mem_of_getElem? (i := 38) rfl))) (Or.inr (hw _ (List.mem_of_getElem? (i := 36) rfl))) (by decide) (t := (.object "java/lang/String")) (t' := (.object "java/lang/String")) (by decide) (by decide)))
  have f21 := f7.other W16 (Or.inr (slot_ne (Or.inr (hw _ (List.mem_of_getElem? (i := 40) rfl))) (Or.inr (hw _ (List.mem_of_getElem? (i := 36) rfl))) (by decide) (t := .boolean) (t' := (.object "java/lang/String")) (by decide) (by decide)))
  have f22 := f8.other W16 (Or.inr (slot_ne (Or.inr (hw _ (List.mem_of_getElem? (i := 42) rfl))) (Or.inr (hw _ (List.mem_of_getElem? (i := 36) rfl))) (by decide) (t := .boolean) (t' := (.object "java/lang/String")) (by decide) (by decide)))
  have f23 := f9.other W16 (Or.inr (slot_ne (Or.inr (hw _ (List.mem_of_getElem? (i := 44) rfl))) (Or.inr (hw _ (List.mem_of_getElem? (i := 36) rfl))) (by decide) (t := .boolean) (t' := (.object "java/lang/String")) (by decide) (by decide)))
  have f24 := f10.other W16 (Or.inr (slot_ne (Or.inr (hw _ (List.mem_of_getElem? (i := 46) rfl))) (Or.inr (hw _ (List.mem_of_getElem? (i := 36) rfl))) (by decide) (t := .long) (t' := (.object "java/lang/String")) (by decide) (by decide)))
  have f25 := f11.other W16 (Or.inr (slot_ne (Or.inr (hw _ (List.mem_of_getElem? (i := 48) rfl))) (Or.inr (hw _ (List.mem_of_getElem? (i := 36) rfl))) (by decide) (t := .boolean) (t' := (.object "java/lang/String")) (by decide) (by decide)))
  have f26 := f12.other W16 (Or.inr (slot_ne (Or.inr (hw _ (List.mem_of_getElem? (i := 50) rfl))) (Or.inr (hw _ (List.mem_of_getElem? (i := 36) rfl))) (by decide) (t := (.array .byte)) (t' := (.object "java/lang/String")) (by decide) (by decide)))
  have kp27 := kp13.wr W16 (Or.inl (List.mem_of_getElem? (i := 0) rfl))
  have z28 := Nat.le_trans z14 (Keep.of_wr W16).1
  have N29 := Fr.snoc X16 N15 g_a1
  obtain ⟨T30, h30, X30, e30, W30, st30⟩ := putF X16 hx hZ hown (host := "") (Or.inl (hw _ (List.mem_of_getElem? (i := 37) rfl))) Via.refl e16 f20 f17 (Or.inr ⟨(hw _ (List.mem_of_getElem? (i := 38) rfl)), rfl, hnm⟩) (hw _ (List.mem_of_getElem? (i := 27) rfl)) (ty := (.object "java/lang/String")) (by decide) rfl rfl (g := (mkF m 16 #[.val (.ref a1), .val (.ref a2), .val (.ref a3), .val .null, .val (.int p5), .val (.int p6), .val (.int p7), .val (.long q8), .second, .val (.int p9), .val .null] [.null, (.ref a1)])) rfl rfl (hb hby d6_16)
  have f31 := f17.wr W30
  have f32 := f18.other W30 (Or.inr (slot_ne (Or.inr (hw _ (List.mem_of_getElem? (i := 34) rfl))) (Or.inr (hw _ (List.mem_of_getElem? (i := 38) rfl))) (by decide) (t := (.object "java/lang/String")) (t' := (.object "java/lang/String")) (by decide) (by decide)))
  have f33 := f19.other W30 (Or.inr (slot_ne (Or.inr (hw _ (List.mem_of_getElem? (i := 36) rfl))) (Or.inr (hw _ (List.mem_of_getElem? (i := 38) rfl))) (by decide) (t := (.object "java/lang/String")) (t' := (.object "java/lang/String")) (by decide) (by decide)))
  have f34 := f20.same W30
  have f35 := f21.other W30 (Or.inr (slot_ne (Or.inr (hw _ (List.mem_of_getElem? (i := 40) rfl))) (Or.inr (hw _ (List.mem_of_getElem? (i := 38) rfl))) (by decide) (t := .boolean) (t' := (.object "java/lang/String")) (by decide) (by decide)))
  have f36 := f22.other W30 (Or.inr (slot_ne (Or.inr (hw _ (List.mem_of_getElem? (i := 42) rfl))) (Or.inr (hw _ (List.mem_of_getElem? (i := 38) rfl))) (by decide) (t := .boolean) (t' := (.object "java/lang/String")) (by decide) (by decide)))
  have f37 := f23.other W30 (Or.inr (slot_ne (Or.inr (hw _ (List.mem_of_getElem? (i := 44) rfl))) (Or.inr (hw _ (List.mem_of_getElem? (i := 38) rfl))) (by decide) (t := .boolean) (t' := (.object "java/lang/String")) (by decide) (by decide)))
  have f38 := f24.other W30 (Or.inr (slot_ne (Or.inr (hw _ (List.mem_of_getElem? (i := 46) rfl))) (Or.inr (hw _ (List.mem_of_getElem? (i := 38) rfl))) (by decide) (t := .long) (t' := (.object "java/lang/String")) (by decide) (by decide)))
  have f39 := f25.other W30 (Or.inr (slot_ne (Or.inr (hw _ (List.mem_of_getElem? (i := 48) rfl))) (Or.inr (hw _ (List.mem_of_getElem? (i := 38) rfl))) (by decide) (t := .boolean) (t' := (.object "java/lang/String")) (by decide) (by decide)))
  have f40 := f26.other W30 (Or.inr (slot_ne (Or.inr (hw _ (List.mem_of_getElem? (i := 50) rfl))) (Or.inr (hw _ (List.mem_of_getElem? (i := 38) rfl))) (by decide) (t := (.array .byte)) (t' := (.object "java/lang/String")) (by decide) (by decide)))
  have kp41 := kp27.wr W30 (Or.inl (List.mem_of_getElem? (i := 0) rfl))
  have z42 := Nat.le_trans z28 (Keep.of_wr W30).1
  have N43 := Fr.snoc X30 N29 g_a1
  obtain ⟨T44, h44, X44, e44, W44, st44⟩ := putFN X30 hx hZ hown (hw _ (List.mem_of_getElem? (i := 39) rfl)) Via.refl e30 f35 f31 (Or.inr ⟨(hw _ (List.mem_of_getElem? (i := 40) rfl)), rfl, hnm⟩) (hw _ (List.mem_of_getElem? (i := 27) rfl)) (ty := .boolean) (v' := .int (p5 &&& 1)) (by decide) rfl (fits_nar_bool _) (g := (mkF m 22 #[.val (.ref a1), .val (.ref a2), .val (.ref a3), .val .null, .val (.int p5), .val (.int p6), .val (.int p7), .val (.long q8), .second, .val (.int p9), .val .null] [(.int p5), (.ref a1)])) rfl rfl (hb hby d6_22)
  have f45 := f31.wr W44
  have f46 := f32.other W44 (Or.inr (slot_ne (Or.inr (hw _ (List.mem_of_getElem? (i := 34) rfl))) (Or.inr (hw _ (List.mem_of_getElem? (i := 40) rfl))) (by decide) (t := (.object "java/lang/String")) (t' := .boolean) (by decide) (by decide)))
  have f47 := f33.other W44 (Or.inr (slot_ne (Or.inr (hw _ (List.mem_of_getElem? (i := 36) rfl))) (Or.inr (hw _ (List.mem_of_getElem? (i := 40) rfl))) (by decide) (t := (.object "java/lang/String")) (t' := .boolean) (by decide) (by decide)))
  have f48 := f34.other W44 (Or.inr (slot_ne (Or.inr (hw _ (List.mem_of_getElem? (i := 38) rfl))) (Or.inr (hw _ (List.mem_of_getElem? (i := 40) rfl))) (by decide) (t := (.object "java/lang/String")) (t' := .boolean) (by decide) (by decide)))
  have f49 := f35.same W44
  have f50 := f36.other W44 (Or.inr (slot_ne (Or.inr (hw _ (List.mem_of_getElem? (i := 42) rfl))) (Or.inr (hw _ (List.mem_of_getElem? (i := 40) rfl))) (by decide) (t := .boolean) (t' := .boolean) (by decide) (by decide)))
  have f51 := f37.other W44 (Or.inr (slot_ne (Or.inr (hw _ (List.mem_of_getElem? (i := 44) rfl))) (Or.inr (hw _ (List.mem_of_getElem? (i := 40) rfl))) (by decide) (t := .boolean) (t' := .boolean) (by decide) (by decide)))
  have f52 := f38.other W44 (Or.inr (slot_ne (Or.inr (hw _ (List.mem_of_getElem? (i := 46) rfl))) (Or.inr (hw _ (List.mem_of_getElem? (i := 40) rfl))) (by decide) (t := .long) (t' := .boolean) (by decide) (by decide)))
  have f53 := f39.other W44 (Or.inr (slot_ne (Or.inr (hw _ (List.mem_of_getElem? (i := 48) rfl))) (Or.inr (hw _ (List.mem_of_getElem? (i := 40) rfl))) (by decide) (t := .boolean) (t' := .boolean) (by decide) (by decide)))
  have f54 := f40.other W44 (Or.inr (slot_ne (Or.inr (hw _ (List.mem_of_getElem? (i := 50) rfl))) (Or.inr (hw _ (List.mem_of_getElem? (i := 40) rfl))) (by decide) (t := (.array .byte)) (t' := .boolean) (by decide) (by decide)))
  have kp55 := kp41.wr W44 (Or.inl (List.mem_of_getElem? (i := 0) rfl))
  have z56 := Nat.le_trans z42 (Keep.of_wr W44).1
  have N57 := Fr.snoc X44 N43 g_a1
  obtain ⟨T58, h58, X58, e58, W58, st58⟩ := putFN X44 hx hZ hown (hw _ (List.mem_of_getElem? (i := 41) rfl)) Via.refl e44 f50 f45 (Or.inr ⟨(hw _ (List.mem_of_getElem? (i := 42) rfl)), rfl, hnm⟩) (hw _ (List.mem_of_getElem? (i := 27) rfl)) (ty := .boolean) (v' := .int (p6 &&& 1)) (by decide) rfl (fits_nar_bool _) (g := (mkF m 28 #[.val (.ref a1), .val (.ref a2), .val (.ref a3), .val .null, .val (.int p5), .val (.int p6), .val (.int p7), .val (.long q8), .second, .val (.int p9), .val .null] [(.int p6), (.ref a1)])) rfl rfl (hb hby d6_28)
  have f59 := f45.wr W58
  have f60 := f46.other W58 (Or.inr (slot_ne (Or.inr (hw _ (List.mem_of_getElem? (i := 34) rfl))) (Or.inr (hw _ (List.mem_of_getElem? (i := 42) rfl))) (by decide) (t := (.object "java/lang/String")) (t' := .boolean) (by decide) (by decide)))
  have f61 := f47.other W58 (Or.inr (slot_ne (Or.inr (hw _ (List.mem_of_getElem? (i := 36) rfl))) (Or.inr (hw _ (List.mem_of_getElem? (i := 42) rfl))) (by decide) (t := (.object "java/lang/String")) (t' := .boolean) (by decide) (by decide)))
  have f62 := f48.other W58 (Or.inr (slot_ne (Or.inr (hw _ (List.mem_of_getElem? (i := 38) rfl))) (Or.inr (hw _ (List.mem_of_getElem? (i := 42) rfl))) (by decide) (t := (.object "java/lang/String")) (t' := .boolean) (by decide) (by decide)))
  have f63 := f49.other W58 (Or.inr (slot_ne (Or.inr (hw _ (List.mem_of_getElem? (i := 40) rfl))) (Or.inr (hw _ (List.mem_of_getElem? (i := 42) rfl))) (by decide) (t := .boolean) (t' := .boolean) (by decide) (by decide)))
  have f64 := f50.same W58
  have f65 := f51.other W58 (Or.inr (slot_ne (Or.inr (hw _ (List.mem_of_getElem? (i := 44) rfl))) (Or.inr (hw _ (List.mem_of_getElem? (i := 42) rfl))) (by decide) (t := .boolean) (t' := .boolean) (by decide) (by decide)))
  have f66 := f52.other W58 (Or.inr (slot_ne (Or.inr (hw _ (List.mem_of_getElem? (i := 46) rfl))) (Or.inr (hw _ (List.mem_of_getElem? (i := 42) rfl))) (by decide) (t := .long) (t' := .boolean) (by decide) (by decide)))
  have f67 := f53.other W58 (Or.inr (slot_ne (Or.inr (hw _ (List.mem_of_getElem? (i := 48) rfl))) (Or.inr (hw _ (List.mem_of_getElem? (i := 42) rfl))) (by decide) (t := .boolean) (t' := .boolean) (by decide) (by decide)))
  have f68 := f54.other W58 (Or.inr (slot_ne (Or.inr (hw _ (List.mem_of_getElem? (i := 50) rfl))) (Or.inr (hw _ (List.mem_of_getElem? (i := 42) rfl))) (by decide) (t := (.array .byte)) (t' := .boolean) (by decide) (by decide)))
  have kp69 := kp55.wr W58 (Or.inl (List.mem_of_getElem? (i := 0) rfl))
  have z70 := Nat.le_trans z56 (Keep.of_wr W58).1
  have N71 := Fr.snoc X58 N57 g_a1
  obtain ⟨T72, h72, X72, e72, W72, st72⟩ := putFN X58 hx hZ hown (hw _ (List.mem_of_getElem? (i := 43) rfl)) Via.refl e58 f65 f59 (Or.inr ⟨(hw _ (List.mem_of_getElem? (i := 44) rfl)), rfl, hnm⟩) (hw _ (List.mem_of_getElem? (i := 27) rfl)) (ty := .boolean) (v' := .int (p7 &&& 1)) (by decide) rfl (fits_nar_bool _) (g := (mkF m 34 #[.val (.ref a1), .val (.ref a2), .val (.ref a3), .val .null, .val (.int p5), .val (.int p6), .val (.int p7), .val (.long q8), .second, .val (.int p9), .val .null] [(.int p7), (.ref a1)])) rfl rfl (hb hby d6_34)
  have f73 := f59.wr W72
  have f74 := f60.other W72 (Or.inr (slot_ne (Or.inr (hw _ (List.mem_of_getElem? (i := 34) rfl))) (Or.inr (hw _ (List.mem_of_getElem? (i := 44) rfl))) (by decide) (t := (.object "java/lang/String")) (t' := .boolean) (by decide) (by decide)))
  have f75 := f61.other W72 (Or.inr (slot_ne (Or.inr (hw _ (List.mem_of_getElem? (i := 36) rfl))) (Or.inr (hw _ (List.mem_of_getElem? (i := 44) rfl))) (by decide) (t := (.object "java/lang/String")) (t' := .boolean) (by decide) (by decide)))
  have f76 := f62.other W72 (Or.inr (slot_ne (Or.inr (hw _ (List.mem_of_getElem? (i := 38) rfl))) (Or.inr (hw _ (List.mem_of_getElem? (i := 44) rfl))) (by decide) (t := (.object "java/lang/String")) (t' := .boolean) (by decide) (by decide)))
  have f77 := f63.other W72 (Or.inr (slot_ne (Or.inr (hw _ (List.mem_of_getElem? (i := 40) rfl))) (Or.inr (hw _ (List.mem_of_getElem? (i := 44) rfl))) (by decide) (t := .boolean) (t' := .boolean) (by decide) (by decide)))
  have f78 := f64.other W72 (Or.inr (slot_ne (Or.inr (hw _ (List.mem_of_getElem? (i := 42) rfl))) (Or.inr (hw _ (List.mem_of_getElem? (i := 44) rfl))) (by decide) (t := .boolean) (t' := .boolean) (by decide) (by decide)))
  have f79 := f65.same W72
  have f80 := f66.other W72 (Or.inr (slot_ne (Or.inr (hw _ (List.mem_of_getElem? (i := 46) rfl))) (Or.inr (hw _ (List.mem_of_getElem? (i := 44) rfl))) (by decide) (t := .long) (t' := .boolean) (by decide) (by decide)))
  have f81 := f67.other W72 (Or.inr (slot_ne (Or.inr (hw _ (List.mem_of_getElem? (i := 48) rfl))) (Or.inr (hw _ (List.mem_of_getElem? (i := 44) rfl))) (by decide) (t := .boolean) (t' := .boolean) (by decide) (by decide)))
  have f82 := f68.other W72 (Or.inr (slot_ne (Or.inr (hw _ (List.mem_of_getElem? (i := 50) rfl))) (Or.inr (hw _ (List.mem_of_getElem? (i := 44) rfl))) (by decide) (t := (.array .byte)) (t' := .boolean) (by decide) (by decide)))
  have kp83 := kp69.wr W72 (Or.inl (List.mem_of_getElem? (i := 0) rfl))
  have z84 := Nat.le_trans z70 (Keep.of_wr W72).1
  have N85 := Fr.snoc X72 N71 g_a1
  obtain ⟨T86, h86, X86, e86, W86, st86⟩ := putF X72 hx hZ hown (host := "") (Or.inl (hw _ (List.mem_of_getElem? (i := 45) rfl))) Via.refl e72 f80 f73 (Or.inr ⟨(hw _ (List.mem_of_getElem? (i := 46) rfl)), rfl, hnm⟩) (hw _ (List.mem_of_getElem? (i := 27) rfl)) (ty := .long) (by decide) rfl rfl (g := (mkF m 40 #[.val (.ref a1), .val (.ref a2), .val (.ref a3), .val .null, .val (.int p5), .val (.int p6), .val (.int p7), .val (.long q8), .second, .val (.int p9), .val .null] [(.long q8), (.ref a1)])) rfl rfl (hb hby d6_40)
  have f87 := f73.wr W86
  have f88 := f74.other W86 (Or.inr (slot_ne (Or.inr (hw _ (List.mem_of_getElem? (i := 34) rfl))) (Or.inr (hw _ (List.mem_of_getElem? (i := 46) rfl))) (by decide) (t := (.object "java/lang/String")) (t' := .long) (by decide) (by decide)))
  have f89 := f75.other W86 (Or.inr (slot_ne (Or.inr (hw _ (List.mem_of_getElem? (i := 36) rfl))) (Or.inr (hw _ (List.mem_of_getElem? (i := 46) rfl))) (by decide) (t := (.object "java/lang/String")) (t' := .long) (by decide) (by decide)))
  have f90 := f76.other W86 (Or.inr (slot_ne (Or.inr (hw _ (List.mem_of_getElem? (i := 38) rfl))) (Or.inr (hw _ (List.mem_of_getElem? (i := 46) rfl))) (by decide) (t := (.object "java/lang/String")) (t' := .long) (by decide) (by decide)))
  have f91 := f77.other W86 (Or.inr (slot_ne (Or.inr (hw _ (List.mem_of_getElem? (i := 40) rfl))) (Or.inr (hw _ (List.mem_of_getElem? (i := 46) rfl))) (by decide) (t := .boolean) (t' := .long) (by decide) (by decide)))
  have f92 := f78.other W86 (Or.inr (slot_ne (Or.inr (hw _ (List.mem_of_getElem? (i := 42) rfl))) (Or.inr (hw _ (List.mem_of_getElem? (i := 46) rfl))) (by decide) (t := .boolean) (t' := .long) (by decide) (by decide)))
  have f93 := f79.other W86 (Or.inr (slot_ne (Or.inr (hw _ (List.mem_of_getElem? (i := 44) rfl))) (Or.inr (hw _ (List.mem_of_getElem? (i := 46) rfl))) (by decide) (t := .boolean) (t' := .long) (by decide) (by decide)))
  have f94 := f80.same W86
  have f95 := f81.other W86 (Or.inr (slot_ne (Or.inr (hw _ (List.mem_of_getElem? (i := 48) rfl))) (Or.inr (hw _ (List.mem_of_getElem? (i := 46) rfl))) (by decide) (t := .boolean) (t' := .long) (by decide) (by decide)))
  have f96 := f82.other W86 (Or.inr (slot_ne (Or.inr (hw _ (List.mem_of_getElem? (i := 50) rfl))) (Or.inr (hw _ (List.mem_of_getElem? (i := 46) rfl))) (by decide) (t := (.array .byte)) (t' := .long) (by decide) (by decide)))
  have kp97 := kp83.wr W86 (Or.inl (List.mem_of_getElem? (i := 0) rfl))
  have z98 := Nat.le_trans z84 (Keep.of_wr W86).1
  have N99 := Fr.snoc X86 N85 g_a1
  obtain ⟨T100, h100, X100, e100, W100, st100⟩ := putFN X86 hx hZ hown (hw _ (List.mem_of_getElem? (i := 47) rfl)) Via.refl e86 f95 f87 (Or.inr ⟨(hw _ (List.mem_of_getElem? (i := 48) rfl)), rfl, hnm⟩) (hw _ (List.mem_of_getElem? (i := 27) rfl)) (ty := .boolean) (v' := .int (p9 &&& 1)) (by decide) rfl (fits_nar_bool _) (g := (mkF m 46 #[.val (.ref a1), .val (.ref a2), .val (.ref a3), .val .null, .val (.int p5), .val (.int p6), .val (.int p7), .val (.long q8), .second, .val (.int p9), .val .null] [(.int p9), (.ref a1)])) rfl rfl (hb hby d6_46)
  have f101 := f87.wr W100
  have f102 := f88.other W100 (Or.inr (slot_ne (Or.inr (hw _ (List.mem_of_getElem? (i := 34) rfl))) (Or.inr (hw _ (List.mem_of_getElem? (i := 48) rfl))) (by decide) (t := (.object "java/lang/String")) (t' := .boolean) (by decide) (by decide)))
  have f103 := f89.other W100 (Or.inr (slot_ne (Or.inr (hw _ (List.mem_of_getElem? (i := 36) rfl))) (Or.inr (hw _ (List.mem_of_getElem? (i := 48) rfl))) (by decide) (t := (.object "java/lang/String")) (t' := .boolean) (by decide) (by decide)))
  have f104 := f90.other W100 (Or.inr (slot_ne (Or.inr (hw _ (List.mem_of_getElem? (i := 38) rfl))) (Or.inr (hw _ (List.mem_of_getElem? (i := 48) rfl))) (by decide) (t := (.object "java/lang/String")) (t' := .boolean) (by decide) (by decide)))
  have f105 := f91.other W100 (Or.inr (slot_ne (Or.inr (hw _ (List.mem_of_getElem? (i := 40) rfl))) (Or.inr (hw _ (List.mem_of_getElem? (i := 48) rfl))) (by decide) (t := .boolean) (t' := .boolean) (by decide) (by decide)))
  have f106 := f92.other W100 (Or.inr (slot_ne (Or.inr (hw _ (List.mem_of_getElem? (i := 42) rfl))) (Or.inr (hw _ (List.mem_of_getElem? (i := 48) rfl))) (by decide) (t := .boolean) (t' := .boolean) (by decide) (by decide)))
  have f107 := f93.other W100 (Or.inr (slot_ne (Or.inr (hw _ (List.mem_of_getElem? (i := 44) rfl))) (Or.inr (hw _ (List.mem_of_getElem? (i := 48) rfl))) (by decide) (t := .boolean) (t' := .boolean) (by decide) (by decide)))
  have f108 := f94.other W100 (Or.inr (slot_ne (Or.inr (hw _ (List.mem_of_getElem? (i := 46) rfl))) (Or.inr (hw _ (List.mem_of_getElem? (i := 48) rfl))) (by decide) (t := .long) (t' := .boolean) (by decide) (by decide)))
  have f109 := f95.same W100
  have f110 := f96.other W100 (Or.inr (slot_ne (Or.inr (hw _ (List.mem_of_getElem? (i := 50) rfl))) (Or.inr (hw _ (List.mem_of_getElem? (i := 48) rfl))) (by decide) (t := (.array .byte)) (t' := .boolean) (by decide) (by decide)))
  have kp111 := kp97.wr W100 (Or.inl (List.mem_of_getElem? (i := 0) rfl))
  have z112 := Nat.le_trans z98 (Keep.of_wr W100).1
  have N113 := Fr.snoc X100 N99 g_a1
  obtain ⟨T114, h114, X114, e114, W114, st114⟩ := putF X100 hx hZ hown (host := "") (Or.inl (hw _ (List.mem_of_getElem? (i := 49) rfl))) Via.refl e100 f110 f101 (Or.inr ⟨(hw _ (List.mem_of_getElem? (i := 50) rfl)), rfl, hnm⟩) (hw _ (List.mem_of_getElem? (i := 27) rfl)) (ty := (.array .byte)) (by decide) rfl rfl (g := (mkF m 52 #[.val (.ref a1), .val (.ref a2), .val (.ref a3), .val .null, .val (.int p5), .val (.int p6), .val (.int p7), .val (.long q8), .second, .val (.int p9), .val .null] [.null, (.ref a1)])) rfl rfl (hb hby d6_52)
  have f115 := f101.wr W114
  have f116 := f102.other W114 (Or.inr (slot_ne (Or.inr (hw _ (List.mem_of_getElem? (i := 34) rfl))) (Or.inr (hw _ (List.mem_of_getElem? (i := 50) rfl))) (by decide) (t := (.object "java/lang/String")) (t' := (.array .byte)) (by decide) (by decide)))
  have f117 := f103.other W114 (Or.inr (slot_ne (Or.inr (hw _ (List.mem_of_getElem? (i := 36) rfl))) (Or.inr (hw _ (List.mem_of_getElem? (i := 50) rfl))) (by decide) (t := (.object "java/lang/String")) (t' := (.array .byte)) (by decide) (by decide)))
  have f118 := f104.other W114 (Or.inr (slot_ne (Or.inr (hw _ (List.mem_of_getElem? (i := 38) rfl))) (Or.inr (hw _ (List.mem_of_getElem? (i := 50) rfl))) (by decide) (t := (.object "java/lang/String")) (t' := (.array .byte)) (by decide) (by decide)))
  have f119 := f105.other W114 (Or.inr (slot_ne (Or.inr (hw _ (List.mem_of_getElem? (i := 40) rfl))) (Or.inr (hw _ (List.mem_of_getElem? (i := 50) rfl))) (by decide) (t := .boolean) (t' := (.array .byte)) (by decide) (by decide)))
  have f120 := f106.other W114 (Or.inr (slot_ne (Or.inr (hw _ (List.mem_of_getElem? (i := 42) rfl))) (Or.inr (hw _ (List.mem_of_getElem? (i := 50) rfl))) (by decide) (t := .boolean) (t' := (.array .byte)) (by decide) (by decide)))
  have f121 := f107.other W114 (Or.inr (slot_ne (Or.inr (hw _ (List.mem_of_getElem? (i := 44) rfl))) (Or.inr (hw _ (List.mem_of_getElem? (i := 50) rfl))) (by decide) (t := .boolean) (t' := (.array .byte)) (by decide) (by decide)))
  have f122 := f108.other W114 (Or.inr (slot_ne (Or.inr (hw _ (List.mem_of_getElem? (i := 46) rfl))) (Or.inr (hw _ (List.mem_of_getElem? (i := 50) rfl))) (by decide) (t := .long) (t' := (.array .byte)) (by decide) (by decide)))
  have f123 := f109.other W114 (Or.inr (slot_ne (Or.inr (hw _ (List.mem_of_getElem? (i := 48) rfl))) (Or.inr (hw _ (List.mem_of_getElem? (i := 50) rfl))) (by decide) (t := .boolean) (t' := (.array .byte)) (by decide) (by decide)))
  have f124 := f110.same W114
  have kp125 := kp111.wr W114 (Or.inl (List.mem_of_getElem? (i := 0) rfl))
  have z126 := Nat.le_trans z112 (Keep.of_wr W114).1
  have N127 := Fr.snoc X114 N113 g_a1
  obtain ⟨fs, hr, hrun, hended, hW, hsame⟩ := X114.leave (v := none) (fun _ => rfl)
  refine ⟨_, _, pre0 _ ?_, hrun, hended, _, _, rfl, ?_, ⟨_, rfl⟩, hW, hsame.mono (by decide) (by decide)⟩
  · show Steps p.tables e below (s₁.setTop (mkF m 0 #[.val (.ref a1), .val (.ref a2), .val (.ref a3), .val .null, .val (.int p5), .val (.int p6), .val (.int p7), .val (.long q8), .second, .val (.int p9), .val .null] [])) _
    refine XS.aloadN X0.here hx rfl (hb hby d6_0) rfl rfl ?_
    show Steps p.tables e below (s₁.setTop (mkF m 1 #[.val (.ref a1), .val (.ref a2), .val (.ref a3), .val .null, .val (.int p5), .val (.int p6), .val (.int p7), .val (.long q8), .second, .val (.int p9), .val .null] [(.ref a1)])) _
    refine st1 _ ?_
    show Steps p.tables e below (T1.setTop (mkF m 4 #[.val (.ref a1), .val (.ref a2), .val (.ref a3), .val .null, .val (.int p5), .val (.int p6), .val (.int p7), .val (.long q8), .second, .val (.int p9), .val .null] [])) _
    refine XS.aloadN X1.here hx rfl (hb hby d6_4) rfl rfl ?_
    show Steps p.tables e below (T1.setTop (mkF m 5 #[.val (.ref a1), .val (.ref a2), .val (.ref a3), .val .null, .val (.int p5), .val (.int p6), .val (.int p7), .val (.long q8), .second, .val (.int p9), .val .null] [(.ref a1)])) _
    refine XS.aloadN X1.here hx rfl (hb hby d6_5) rfl rfl ?_
    show Steps p.tables e below (T1.setTop (mkF m 6 #[.val (.ref a1), .val (.ref a2), .val (.ref a3), .val .null, .val (.int p5), .val (.int p6), .val (.int p7), .val (.long q8), .second, .val (.int p9), .val .null] [(.ref a2), (.ref a1)])) _
    refine st2 _ ?_
    show Steps p.tables e below (T2.setTop (mkF m 9 #[.val (.ref a1), .val (.ref a2), .val (.ref a3), .val .null, .val (.int p5), .val (.int p6), .val (.int p7), .val (.long q8), .second, .val (.int p9), .val .null] [])) _
    refine XS.aloadN X2.here hx rfl (hb hby d6_9) rfl rfl ?_
    show Steps p.tables e below (T2.setTop (mkF m 10 #[.val (.ref a1), .val (.ref a2), .val (.ref a3), .val .null, .val (.int p5), .val (.int p6), .val (.int p7), .val (.long q8), .second, .val (.int p9), .val .null] [(.ref a1)])) _
    refine XS.aloadN X2.here hx rfl (hb hby d6_10) rfl rfl ?_
    show Steps p.tables e below (T2.setTop (mkF m 11 #[.val (.ref a1), .val (.ref a2), .val (.ref a3), .val .null, .val (.int p5), .val (.int p6), .val (.int p7), .val (.long q8), .second, .val (.int p9), .val .null] [(.ref a3), (.ref a1)])) _
    refine st16 _ ?_
    show Steps p.tables e below (T16.setTop (mkF m 14 #[.val (.ref a1), .val (.ref a2), .val (.ref a3), .val .null, .val (.int p5), .val (.int p6), .val (.int p7), .val (.long q8), .second, .val (.int p9), .val .null] [])) _
    refine XS.aloadN X16.here hx rfl (hb hby d6_14) rfl rfl ?_
    show Steps p.tables e below (T16.setTop (mkF m 15 #[.val (.ref a1), .val (.ref a2), .val (.ref a3), .val .null, .val (.int p5), .val (.int p6), .val (.int p7), .val (.long q8), .second, .val (.int p9), .val .null] [(.ref a1)])) _
    refine XS.aloadN X16.here hx rfl (hb hby d6_15) rfl rfl ?_
    show Steps p.tables e below (T16.setTop (mkF m 16 #[.val (.ref a1), .val (.ref a2), .val (.ref a3), .val .null, .val (.int p5), .val (.int p6), .val (.int p7), .val (.long q8), .second, .val (.int p9), .val .null] [.null, (.ref a1)])) _
    refine st30 _ ?_
    show Steps p.tables e below (T30.setTop (mkF m 19 #[.val (.ref a1), .val (.ref a2), .val (.ref a3), .val .null, .val (.int p5), .val (.int p6), .val (.int p7), .val (.long q8), .second, .val (.int p9), .val .null] [])) _
    refine XS.aloadN X30.here hx rfl (hb hby d6_19) rfl rfl ?_
    show Steps p.tables e below (T30.setTop (mkF m 20 #[.val (.ref a1), .val (.ref a2), .val (.ref a3), .val .null, .val (.int p5), .val (.int p6), .val (.int p7), .val (.long q8), .second, .val (.int p9), .val .null] [(.ref a1)])) _
    refine XS.iload X30.here hx rfl (hb hby d6_20) rfl ?_
    show Steps p.tables e below (T30.setTop (mkF m 22 #[.val (.ref a1), .val (.ref a2), .val (.ref a3), .val .null, .val (.int p5), .val (.int p6), .val (.int p7), .val (.long q8), .second, .val (.int p9), .val .null] [(.int p5), (.ref a1)])) _
    refine st44 _ ?_
    show Steps p.tables e below (T44.setTop (mkF m 25 #[.val (.ref a1), .val (.ref a2), .val (.ref a3), .val .null, .val (.int p5), .val (.int p6), .val (.int p7), .val (.long q8), .second, .val (.int p9), .val .null] [])) _
    refine XS.aloadN X44.here hx rfl (hb hby d6_25) rfl rfl ?_
    show Steps p.tables e below (T44.setTop (mkF m 26 #[.val (.ref a1), .val (.ref a2), .val (.ref a3), .val .null, .val (.int p5), .val (.int p6), .val (.int p7), .val (.long q8), .second, .val (.int p9), .val .null] [(.ref a1)])) _
    refine XS.iload X44.here hx rfl (hb hby d6_26) rfl ?_
    show Steps p.tables e below (T44.setTop (mkF m 28 #[.val (.ref a1), .val (.ref a2), .val (.ref a3), .val .null, .val (.int p5), .val (.int p6), .val (.int p7), .val (.long q8), .second, .val (.int p9), .val .null] [(.int p6), (.ref a1)])) _
    refine st58 _ ?_
    show Steps p.tables e below (T58.setTop (mkF m 31 #[.val (.ref a1), .val (.ref a2), .val (.ref a3), .val .null, .val (.int p5), .val (.int p6), .val (.int p7), .val (.long q8), .second, .val (.int p9), .val .null] [])) _
    refine XS.aloadN X58.here hx rfl (hb hby d6_31) rfl rfl ?_
    show Steps p.tables e below (T58.setTop (mkF m 32 #[.val (.ref a1), .val (.ref a2), .val (.ref a3), .val .null, .val (.int p5), .val (.int p6), .val (.int p7), .val (.long q8), .second, .val (.int p9), .val .null] [(.ref a1)])) _
    refine XS.iload X58.here hx rfl (hb hby d6_32) rfl ?_
    show Steps p.tables e below (T58.setTop (mkF m 34 #[.val (.ref a1), .val (.ref a2), .val (.ref a3), .val .null, .val (.int p5), .val (.int p6), .val (.int p7), .val (.long q8), .second, .val (.int p9), .val .null] [(.int p7), (.ref a1)])) _
    refine st72 _ ?_
    show Steps p.tables e below (T72.setTop (mkF m 37 #[.val (.ref a1), .val (.ref a2), .val (.ref a3), .val .null, .val (.int p5), .val (.int p6), .val (.int p7), .val (.long q8), .second, .val (.int p9), .val .null] [])) _
    refine XS.aloadN X72.here hx rfl (hb hby d6_37) rfl rfl ?_
    show Steps p.tables e below (T72.setTop (mkF m 38 #[.val (.ref a1), .val (.ref a2), .val (.ref a3), .val .null, .val (.int p5), .val (.int p6), .val (.int p7), .val (.long q8), .second, .val (.int p9), .val .null] [(.ref a1)])) _
    refine XS.lload X72.here hx rfl (hb hby d6_38) rfl ?_
    show Steps p.tables e below (T72.setTop (mkF m 40 #[.val (.ref a1), .val (.ref a2), .val (.ref a3), .val .null, .val (.int p5), .val (.int p6), .val (.int p7), .val (.long q8), .second, .val (.int p9), .val .null] [(.long q8), (.ref a1)])) _
    refine st86 _ ?_
    show Steps p.tables e below (T86.setTop (mkF m 43 #[.val (.ref a1), .val (.ref a2), .val (.ref a3), .val .null, .val (.int p5), .val (.int p6), .val (.int p7), .val (.long q8), .second, .val (.int p9), .val .null] [])) _
    refine XS.aloadN X86.here hx rfl (hb hby d6_43) rfl rfl ?_
    show Steps p.tables e below (T86.setTop (mkF m 44 #[.val (.ref a1), .val (.ref a2), .val (.ref a3), .val .null, .val (.int p5), .val (.int p6), .val (.int p7), .val (.long q8), .second, .val (.int p9), .val .null] [(.ref a1)])) _
    refine XS.iload X86.here hx rfl (hb hby d6_44) rfl ?_
    show Steps p.tables e below (T86.setTop (mkF m 46 #[.val (.ref a1), .val (.ref a2), .val (.ref a3), .val .null, .val (.int p5), .val (.int p6), .val (.int p7), .val (.long q8), .second, .val (.int p9), .val .null] [(.int p9), (.ref a1)])) _
    refine st100 _ ?_
    show Steps p.tables e below (T100.setTop (mkF m 49 #[.val (.ref a1), .val (.ref a2), .val (.ref a3), .val .null, .val (.int p5), .val (.int p6), .val (.int p7), .val (.long q8), .second, .val (.int p9), .val .null] [])) _
    refine XS.aloadN X100.here hx rfl (hb hby d6_49) rfl rfl ?_
    show Steps p.tables e below (T100.setTop (mkF m 50 #[.val (.ref a1), .val (.ref a2), .val (.ref a3), .val .null, .val (.int p5), .val (.int p6), .val (.int p7), .val (.long q8), .second, .val (.int p9), .val .null] [(.ref a1)])) _
    refine XS.aload X100.here hx rfl (hb hby d6_50) rfl rfl ?_
    show Steps p.tables e below (T100.setTop (mkF m 52 #[.val (.ref a1), .val (.ref a2), .val (.ref a3), .val .null, .val (.int p5), .val (.int p6), .val (.int p7), .val (.long q8), .second, .val (.int p9), .val .null] [.null, (.ref a1)])) _
    refine st114 _ ?_
    show Steps p.tables e below (T114.setTop (mkF m 55 #[.val (.ref a1), .val (.ref a2), .val (.ref a3), .val .null, .val (.int p5), .val (.int p6), .val (.int p7), .val (.long q8), .second, .val (.int p9), .val .null] [])) _
    exact X114.returnOut hx Bd.returns (hb hby d6_55) hr
  · show own_QR Z a1 p5 p6 h0 n0 _ T114.heap _
    rw [e114]
    exact ⟨rfl, N127, kp125, f115, f119, f120⟩
theorem ef_6_vvvnvvvvvv (m : MethodId) (x0 : Addr) (x1 : Addr) (x2 : Addr) (x4 : Int32) (x5 : Int32) (x6 : Int32) (x7 : Int64) (x8 : Int32) (x9 : Addr) : entryFrame m #[(.ref x0), (.ref x1), (.ref x2), .null, (.int x4), (.int x5), (.int x6), (.long x7), (.int x8), (.ref x9)] 11 = mkF m 0 #[.val (.ref x0), .val (.ref x1), .val (.ref x2), .val .null, .val (.int x4), .val (.int x5), .val (.int x6), .val (.long x7), .second, .val (.int x8), .val (.ref x9)] [] := by first | (simp [entryFrame, mkF, argsToLocals, Value.category]; done) | rfl
set_option maxRecDepth 65536 in
set_option maxHeartbeats 40000000 in
theorem rm6b (l : Launch) (Z : State) (a0 : Array Value) (hw : ∀ d ∈ tables_1, d.before a0 Z = true) (ws : List Jvm.Cond) (a1 a2 a3 : Addr) (p5 p6 p7 : Int32) (q8 : Int64) (p9 : Int32) (a10 : Addr) (h0 : Heap) (n0 : Nat) (Z0 : n0 ≤ h0.size) (E_a1 : Exa Z h0 a1 "com/example/hatchd/hatchd/server/RequestReader$Request") (F_method : Fld Z h0 a1 "com/example/hatchd/hatchd/server/RequestReader$Request" "method" "Ljava/lang/String;" .null) (F_path : Fld Z h0 a1 "com/example/hatchd/hatchd/server/RequestReader$Request" "path" "Ljava/lang/String;" .null) (F_query : Fld Z h0 a1 "com/example/hatchd/hatchd/server/RequestReader$Request" "query" "Ljava/lang/String;" .null) (F_http10 : Fld Z h0 a1 "com/example/hatchd/hatchd/server/RequestReader$Request" "http10" "Z" (.int (0 : Int32))) (F_close : Fld Z h0 a1 "com/example/hatchd/hatchd/server/RequestReader$Request" "close" "Z" (.int (0 : Int32))) (F_chunked : Fld Z h0 a1 "com/example/hatchd/hatchd/server/RequestReader$Request" "chunked" "Z" (.int (0 : Int32))) (F_contentLength : Fld Z h0 a1 "com/example/hatchd/hatchd/server/RequestReader$Request" "contentLength" "J" (.long (0 : Int64))) (F_expectsContinue : Fld Z h0 a1 "com/example/hatchd/hatchd/server/RequestReader$Request" "expectsContinue" "Z" (.int (0 : Int32))) (F_body : Fld Z h0 a1 "com/example/hatchd/hatchd/server/RequestReader$Request" "body" "[B" .null) (g_a1 : n0 ≤ a1) :
    MetFree l (⟨"com/example/hatchd/hatchd/server/RequestReader$Request", "<init>", "(Ljava/lang/String;Ljava/lang/String;Ljava/lang/String;ZZZJZ[B)V"⟩ : MethodName) (head1 (Jvm.Cond.code (⟨"com/example/hatchd/hatchd/server/RequestReader$Request", "<init>", "(Ljava/lang/String;Ljava/lang/String;Ljava/lang/String;ZZZJZ[B)V"⟩ : MethodName) prog_41_method_1_code 11 none :: ws) ({ frames := 1, cells := 0, slots := 0, locals := 12 } : Room)) (fun a U => a = #[(.ref a1), (.ref a2), (.ref a3), .null, (.int p5), (.int p6), (.int p7), (.long q8), (.int p9), (.ref a10)] ∧ Z.Warmed39 U.vm ∧ U.heap = h0) (fun _ _ _ _ _ => True) (fun _ U o U' => ∃ v L, o = .returned v ∧ own_QR Z a1 p5 p6 h0 n0 v U'.heap L ∧ FrameEnd U o U' L ({ frames := 1, cells := 0, slots := 0, locals := 12 } : Room).cells ({ frames := 1, cells := 0, slots := 0, locals := 12 } : Room).slots) := by
  refine MetFree.of_bodySF (plainFor_of_name pn_6) hisR ?_
  intro p e s m args below meth c s₁ Bd hml0 hP hK
  obtain ⟨rfl, hZ, hh⟩ := hP
  have hx := Bd.exec
  have hby := Bd.bytes
  have hml : c.maxLocals = 11 := hml0
  have hown : s.vm.findClass "com/example/hatchd/hatchd/server/RequestReader$Request" = some m.cls := findClass_of_methodNamed Bd.named
  have hnm := (name_of_methodNamed Bd.named Bd.method).1
  have X0 : Stand p l e ({ frames := 1, cells := 0, slots := 0, locals := 12 } : Room) s m #[(.ref a1), (.ref a2), (.ref a3), .null, (.int p5), (.int p6), (.int p7), (.long q8), (.int p9), (.ref a10)] below meth c s₁ [] 0 0 := Stand.of_body Bd
  have e0 : s₁.heap = h0 := by rw [← hh, Bd.state]; rfl
  have N0 := Fr.nil n0
  have pre0 : ∀ tq, Steps p.tables e below (s₁.setTop (mkF m 0 #[.val (.ref a1), .val (.ref a2), .val (.ref a3), .val .null, .val (.int p5), .val (.int p6), .val (.int p7), .val (.long q8), .second, .val (.int p9), .val (.ref a10)] [])) tq → Steps p.tables e below (s₁.setTop (entryFrame m #[(.ref a1), (.ref a2), (.ref a3), .null, (.int p5), (.int p6), (.int p7), (.long q8), (.int p9), (.ref a10)] 11)) tq := fun tq k => castTop (ef_6_vvvnvvvvvv m a1 a2 a3 p5 p6 p7 q8 p9 a10) k
  obtain ⟨T1, X1, e1, st1⟩ := initO X0 hx hZ hown (hw _ (List.mem_of_getElem? (i := 32) rfl)) (hw _ (List.mem_of_getElem? (i := 20) rfl)) (hw _ (List.mem_of_getElem? (i := 21) rfl)) e0 (g := (mkF m 1 #[.val (.ref a1), .val (.ref a2), .val (.ref a3), .val .null, .val (.int p5), .val (.int p6), .val (.int p7), .val (.long q8), .second, .val (.int p9), .val (.ref a10)] [(.ref a1)])) rfl (by rw [hml]; rfl) rfl (hb hby d6_1) (by decide) (W := 0) (by show 2 * 0 + _ ≤ _; exact Nat.le_of_eq rfl) (by decide)
  obtain ⟨T2, h2, X2, e2, W2, st2⟩ := putF X1 hx hZ hown (host := "") (Or.inl (hw _ (List.mem_of_getElem? (i := 33) rfl))) Via.refl e1 F_method E_a1 (Or.inr ⟨(hw _ (List.mem_of_getElem? (i := 34) rfl)), rfl, hnm⟩) (hw _ (List.mem_of_getElem? (i := 27) rfl)) (ty := (.object "java/lang/String")) (by decide) rfl rfl (g := (mkF m 6 #[.val (.ref a1), .val (.ref a2), .val (.ref a3), .val .null, .val (.int p5), .val (.int p6), .val (.int p7), .val (.long q8), .second, .val (.int p9), .val (.ref a10)] [(.ref a2), (.ref a1)])) rfl rfl (hb hby d6_6)
  have f3 := E_a1.wr W2
  have f4 := F_method.same W2
  have f5 := F_path.other W2 (Or.inr (slot_ne (Or.inr (hw _ (List.mem_of_getElem? (i := 36) rfl))) (Or.inr (hw _ (List.mem_of_getElem? (i := 34) rfl))) (by decide) (t := (.object "java/lang/String")) (t' := (.object "java/lang/String")) (by decide) (by decide)))
  have f6 := F_query.other W2 (Or.inr (slot_ne (Or.inr (hw _ (List.mem_of_getElem? (i := 38) rfl))) (Or.inr (hw _ (List.mem_of_getElem? (i := 34) rfl))) (by decide) (t := (.object "java/lang/String")) (t' := (.object "java/lang/String")) (by decide) (by decide)))
  have f7 := F_http10.other W2 (Or.inr (slot_ne (Or.inr (hw _ (List.mem_of_getElem? (i := 40) rfl))) (Or.inr (hw _ (List.mem_of_getElem? (i := 34) rfl))) (by decide) (t := .boolean) (t' := (.object "java/lang/String")) (by decide) (by decide)))
  have f8 := F_close.other W2 (Or.inr (slot_ne (Or.inr (hw _ (List.mem_of_getElem? (i := 42) rfl))) (Or.inr (hw _ (List.mem_of_getElem? (i := 34) rfl))) (by decide) (t := .boolean) (t' := (.object "java/lang/String")) (by decide) (by decide)))
  have f9 := F_chunked.other W2 (Or.inr (slot_ne (Or.inr (hw _ (List.mem_of_getElem? (i := 44) rfl))) (Or.inr (hw _ (List.mem_of_getElem? (i := 34) rfl))) (by decide) (t := .boolean) (t' := (.object "java/lang/String")) (by decide) (by decide)))
  have f10 := F_contentLength.other W2 (Or.inr (slot_ne (Or.inr (hw _ (List.mem_of_getElem? (i := 46) rfl))) (Or.inr (hw _ (List.mem_of_getElem? (i := 34) rfl))) (by decide) (t := .long) (t' := (.object "java/lang/String")) (by decide) (by decide)))
  have f11 := F_expectsContinue.other W2 (Or.inr (slot_ne (Or.inr (hw _ (List.mem_of_getElem? (i := 48) rfl))) (Or.inr (hw _ (List.mem_of_getElem? (i := 34) rfl))) (by decide) (t := .boolean) (t' := (.object "java/lang/String")) (by decide) (by decide)))
  have f12 := F_body.other W2 (Or.inr (slot_ne (Or.inr (hw _ (List.mem_of_getElem? (i := 50) rfl))) (Or.inr (hw _ (List.mem_of_getElem? (i := 34) rfl))) (by decide) (t := (.array .byte)) (t' := (.object "java/lang/String")) (by decide) (by decide)))
  have kp13 := (Keep.refl h0 [a1]).wr W2 (Or.inl (List.mem_of_getElem? (i := 0) rfl))
  have z14 := Nat.le_trans Z0 (Keep.of_wr W2).1
  have N15 := Fr.snoc X2 N0 g_a1
  obtain ⟨T16, h16, X16, e16, W16, st16⟩ := putF X2 hx hZ hown (host := "") (Or.inl (hw _ (List.mem_of_getElem? (i := 35) rfl))) Via.refl e2 f5 f3 (Or.inr ⟨(hw _ (List.mem_of_getElem? (i := 36) rfl)), rfl, hnm⟩) (hw _ (List.mem_of_getElem? (i := 27) rfl)) (ty := (.object "java/lang/String")) (by decide) rfl rfl (g := (mkF m 11 #[.val (.ref a1), .val (.ref a2), .val (.ref a3), .val .null, .val (.int p5), .val (.int p6), .val (.int p7), .val (.long q8), .second, .val (.int p9), .val (.ref a10)] [(.ref a3), (.ref a1)])) rfl rfl (hb hby d6_11)
  have f17 := f3.wr W16
  have f18 := f4.other W16 (Or.inr (slot_ne (Or.inr (hw _ (List.mem_of_getElem? (i := 34) rfl))) (Or.inr (hw _ (List.mem_of_getElem? (i := 36) rfl))) (by decide) (t := (.object "java/lang/String")) (t' := (.object "java/lang/String")) (by decide) (by decide)))
  have f19 := f5.same W16
  have f20 := f6.other W16 (Or.inr (slot_ne (Or.inr (hw _ (List.mem_of_getElem? (i := 38) rfl))) (Or.inr (hw _ (List.mem_of_getElem? (i := 36) rfl))) (by decide) (t := (.object "java/lang/String")) (t' := (.object "java/lang/String")) (by decide) (by decide)))
  have f21 := f7.other W16 (Or.inr (slot_ne (Or.inr (hw _ (List.mem_of_getElem? (i := 40) rfl))) (Or.inr (hw _ (List.mem_of_getElem? (i := 36) rfl))) (by decide) (t := .boolean) (t' := (.object "java/lang/String")) (by decide) (by decide)))
  have f22 := f8.other W16 (Or.inr (slot_ne (Or.inr (hw _ (List.mem_of_getElem? (i := 42) rfl))) (Or.inr (hw _ (List.mem_of_getElem? (i := 36) rfl))) (by decide) (t := .boolean) (t' := (.object "java/lang/String")) (by decide) (by decide)))
  have f23 := f9.other W16 (Or.inr (slot_ne (Or.inr (hw _ (List.mem_of_getElem? (i := 44) rfl))) (Or.inr (hw _ (List.mem_of_getElem? (i := 36) rfl))) (by decide) (t := .boolean) (t' := (.object "java/lang/String")) (by decide) (by decide)))
  have f24 := f10.other W16 (Or.inr (slot_ne (Or.inr (hw _ (List.mem_of_getElem? (i := 46) rfl))) (Or.inr (hw _ (List.mem_of_getElem? (i := 36) rfl))) (by decide) (t := .long) (t' := (.object "java/lang/String")) (by decide) (by decide)))
  have f25 := f11.other W16 (Or.inr (slot_ne (Or.inr (hw _ (List.mem_of_getElem? (i := 48) rfl))) (Or.inr (hw _ (List.mem_of_getElem? (i := 36) rfl))) (by decide) (t := .boolean) (t' := (.object "java/lang/String")) (by decide) (by decide)))
  have f26 := f12.other W16 (Or.inr (slot_ne (Or.inr (hw _ (List.mem_of_getElem? (i := 50) rfl))) (Or.inr (hw _ (List.mem_of_getElem? (i := 36) rfl))) (by decide) (t := (.array .byte)) (t' := (.object "java/lang/String")) (by decide) (by decide)))
  have kp27 := kp13.wr W16 (Or.inl (List.mem_of_getElem? (i := 0) rfl))
  have z28 := Nat.le_trans z14 (Keep.of_wr W16).1
  have N29 := Fr.snoc X16 N15 g_a1
  obtain ⟨T30, h30, X30, e30, W30, st30⟩ := putF X16 hx hZ hown (host := "") (Or.inl (hw _ (List.mem_of_getElem? (i := 37) rfl))) Via.refl e16 f20 f17 (Or.inr ⟨(hw _ (List.mem_of_getElem? (i := 38) rfl)), rfl, hnm⟩) (hw _ (List.mem_of_getElem? (i := 27) rfl)) (ty := (.object "java/lang/String")) (by decide) rfl rfl (g := (mkF m 16 #[.val (.ref a1), .val (.ref a2), .val (.ref a3), .val .null, .val (.int p5), .val (.int p6), .val (.int p7), .val (.long q8), .second, .val (.int p9), .val (.ref a10)] [.null, (.ref a1)])) rfl rfl (hb hby d6_16)
  have f31 := f17.wr W30
  have f32 := f18.other W30 (Or.inr (slot_ne (Or.inr (hw _ (List.mem_of_getElem? (i := 34) rfl))) (Or.inr (hw _ (List.mem_of_getElem? (i := 38) rfl))) (by decide) (t := (.object "java/lang/String")) (t' := (.object "java/lang/String")) (by decide) (by decide)))
  have f33 := f19.other W30 (Or.inr (slot_ne (Or.inr (hw _ (List.mem_of_getElem? (i := 36) rfl))) (Or.inr (hw _ (List.mem_of_getElem? (i := 38) rfl))) (by decide) (t := (.object "java/lang/String")) (t' := (.object "java/lang/String")) (by decide) (by decide)))
  have f34 := f20.same W30
  have f35 := f21.other W30 (Or.inr (slot_ne (Or.inr (hw _ (List.mem_of_getElem? (i := 40) rfl))) (Or.inr (hw _ (List.mem_of_getElem? (i := 38) rfl))) (by decide) (t := .boolean) (t' := (.object "java/lang/String")) (by decide) (by decide)))
  have f36 := f22.other W30 (Or.inr (slot_ne (Or.inr (hw _ (List.mem_of_getElem? (i := 42) rfl))) (Or.inr (hw _ (List.mem_of_getElem? (i := 38) rfl))) (by decide) (t := .boolean) (t' := (.object "java/lang/String")) (by decide) (by decide)))
  have f37 := f23.other W30 (Or.inr (slot_ne (Or.inr (hw _ (List.mem_of_getElem? (i := 44) rfl))) (Or.inr (hw _ (List.mem_of_getElem? (i := 38) rfl))) (by decide) (t := .boolean) (t' := (.object "java/lang/String")) (by decide) (by decide)))
  have f38 := f24.other W30 (Or.inr (slot_ne (Or.inr (hw _ (List.mem_of_getElem? (i := 46) rfl))) (Or.inr (hw _ (List.mem_of_getElem? (i := 38) rfl))) (by decide) (t := .long) (t' := (.object "java/lang/String")) (by decide) (by decide)))
  have f39 := f25.other W30 (Or.inr (slot_ne (Or.inr (hw _ (List.mem_of_getElem? (i := 48) rfl))) (Or.inr (hw _ (List.mem_of_getElem? (i := 38) rfl))) (by decide) (t := .boolean) (t' := (.object "java/lang/String")) (by decide) (by decide)))
  have f40 := f26.other W30 (Or.inr (slot_ne (Or.inr (hw _ (List.mem_of_getElem? (i := 50) rfl))) (Or.inr (hw _ (List.mem_of_getElem? (i := 38) rfl))) (by decide) (t := (.array .byte)) (t' := (.object "java/lang/String")) (by decide) (by decide)))
  have kp41 := kp27.wr W30 (Or.inl (List.mem_of_getElem? (i := 0) rfl))
  have z42 := Nat.le_trans z28 (Keep.of_wr W30).1
  have N43 := Fr.snoc X30 N29 g_a1
  obtain ⟨T44, h44, X44, e44, W44, st44⟩ := putFN X30 hx hZ hown (hw _ (List.mem_of_getElem? (i := 39) rfl)) Via.refl e30 f35 f31 (Or.inr ⟨(hw _ (List.mem_of_getElem? (i := 40) rfl)), rfl, hnm⟩) (hw _ (List.mem_of_getElem? (i := 27) rfl)) (ty := .boolean) (v' := .int (p5 &&& 1)) (by decide) rfl (fits_nar_bool _) (g := (mkF m 22 #[.val (.ref a1), .val (.ref a2), .val (.ref a3), .val .null, .val (.int p5), .val (.int p6), .val (.int p7), .val (.long q8), .second, .val (.int p9), .val (.ref a10)] [(.int p5), (.ref a1)])) rfl rfl (hb hby d6_22)
  have f45 := f31.wr W44
  have f46 := f32.other W44 (Or.inr (slot_ne (Or.inr (hw _ (List.mem_of_getElem? (i := 34) rfl))) (Or.inr (hw _ (List.mem_of_getElem? (i := 40) rfl))) (by decide) (t := (.object "java/lang/String")) (t' := .boolean) (by decide) (by decide)))
  have f47 := f33.other W44 (Or.inr (slot_ne (Or.inr (hw _ (List.mem_of_getElem? (i := 36) rfl))) (Or.inr (hw _ (List.mem_of_getElem? (i := 40) rfl))) (by decide) (t := (.object "java/lang/String")) (t' := .boolean) (by decide) (by decide)))
  have f48 := f34.other W44 (Or.inr (slot_ne (Or.inr (hw _ (List.mem_of_getElem? (i := 38) rfl))) (Or.inr (hw _ (List.mem_of_getElem? (i := 40) rfl))) (by decide) (t := (.object "java/lang/String")) (t' := .boolean) (by decide) (by decide)))
  have f49 := f35.same W44
  have f50 := f36.other W44 (Or.inr (slot_ne (Or.inr (hw _ (List.mem_of_getElem? (i := 42) rfl))) (Or.inr (hw _ (List.mem_of_getElem? (i := 40) rfl))) (by decide) (t := .boolean) (t' := .boolean) (by decide) (by decide)))
  have f51 := f37.other W44 (Or.inr (slot_ne (Or.inr (hw _ (List.mem_of_getElem? (i := 44) rfl))) (Or.inr (hw _ (List.mem_of_getElem? (i := 40) rfl))) (by decide) (t := .boolean) (t' := .boolean) (by decide) (by decide)))
  have f52 := f38.other W44 (Or.inr (slot_ne (Or.inr (hw _ (List.mem_of_getElem? (i := 46) rfl))) (Or.inr (hw _ (List.mem_of_getElem? (i := 40) rfl))) (by decide) (t := .long) (t' := .boolean) (by decide) (by decide)))
  have f53 := f39.other W44 (Or.inr (slot_ne (Or.inr (hw _ (List.mem_of_getElem? (i := 48) rfl))) (Or.inr (hw _ (List.mem_of_getElem? (i := 40) rfl))) (by decide) (t := .boolean) (t' := .boolean) (by decide) (by decide)))
  have f54 := f40.other W44 (Or.inr (slot_ne (Or.inr (hw _ (List.mem_of_getElem? (i := 50) rfl))) (Or.inr (hw _ (List.mem_of_getElem? (i := 40) rfl))) (by decide) (t := (.array .byte)) (t' := .boolean) (by decide) (by decide)))
  have kp55 := kp41.wr W44 (Or.inl (List.mem_of_getElem? (i := 0) rfl))
  have z56 := Nat.le_trans z42 (Keep.of_wr W44).1
  have N57 := Fr.snoc X44 N43 g_a1
  obtain ⟨T58, h58, X58, e58, W58, st58⟩ := putFN X44 hx hZ hown (hw _ (List.mem_of_getElem? (i := 41) rfl)) Via.refl e44 f50 f45 (Or.inr ⟨(hw _ (List.mem_of_getElem? (i := 42) rfl)), rfl, hnm⟩) (hw _ (List.mem_of_getElem? (i := 27) rfl)) (ty := .boolean) (v' := .int (p6 &&& 1)) (by decide) rfl (fits_nar_bool _) (g := (mkF m 28 #[.val (.ref a1), .val (.ref a2), .val (.ref a3), .val .null, .val (.int p5), .val (.int p6), .val (.int p7), .val (.long q8), .second, .val (.int p9), .val (.ref a10)] [(.int p6), (.ref a1)])) rfl rfl (hb hby d6_28)
  have f59 := f45.wr W58
  have f60 := f46.other W58 (Or.inr (slot_ne (Or.inr (hw _ (List.mem_of_getElem? (i := 34) rfl))) (Or.inr (hw _ (List.mem_of_getElem? (i := 42) rfl))) (by decide) (t := (.object "java/lang/String")) (t' := .boolean) (by decide) (by decide)))
  have f61 := f47.other W58 (Or.inr (slot_ne (Or.inr (hw _ (List.mem_of_getElem? (i := 36) rfl))) (Or.inr (hw _ (List.mem_of_getElem? (i := 42) rfl))) (by decide) (t := (.object "java/lang/String")) (t' := .boolean) (by decide) (by decide)))
  have f62 := f48.other W58 (Or.inr (slot_ne (Or.inr (hw _ (List.mem_of_getElem? (i := 38) rfl))) (Or.inr (hw _ (List.mem_of_getElem? (i := 42) rfl))) (by decide) (t := (.object "java/lang/String")) (t' := .boolean) (by decide) (by decide)))
  have f63 := f49.other W58 (Or.inr (slot_ne (Or.inr (hw _ (List.mem_of_getElem? (i := 40) rfl))) (Or.inr (hw _ (List.mem_of_getElem? (i := 42) rfl))) (by decide) (t := .boolean) (t' := .boolean) (by decide) (by decide)))
  have f64 := f50.same W58
  have f65 := f51.other W58 (Or.inr (slot_ne (Or.inr (hw _ (List.mem_of_getElem? (i := 44) rfl))) (Or.inr (hw _ (List.mem_of_getElem? (i := 42) rfl))) (by decide) (t := .boolean) (t' := .boolean) (by decide) (by decide)))
  have f66 := f52.other W58 (Or.inr (slot_ne (Or.inr (hw _ (List.mem_of_getElem? (i := 46) rfl))) (Or.inr (hw _ (List.mem_of_getElem? (i := 42) rfl))) (by decide) (t := .long) (t' := .boolean) (by decide) (by decide)))
  have f67 := f53.other W58 (Or.inr (slot_ne (Or.inr (hw _ (List.mem_of_getElem? (i := 48) rfl))) (Or.inr (hw _ (List.mem_of_getElem? (i := 42) rfl))) (by decide) (t := .boolean) (t' := .boolean) (by decide) (by decide)))
  have f68 := f54.other W58 (Or.inr (slot_ne (Or.inr (hw _ (List.mem_of_getElem? (i := 50) rfl))) (Or.inr (hw _ (List.mem_of_getElem? (i := 42) rfl))) (by decide) (t := (.array .byte)) (t' := .boolean) (by decide) (by decide)))
  have kp69 := kp55.wr W58 (Or.inl (List.mem_of_getElem? (i := 0) rfl))
  have z70 := Nat.le_trans z56 (Keep.of_wr W58).1
  have N71 := Fr.snoc X58 N57 g_a1
  obtain ⟨T72, h72, X72, e72, W72, st72⟩ := putFN X58 hx hZ hown (hw _ (List.mem_of_getElem? (i := 43) rfl)) Via.refl e58 f65 f59 (Or.inr ⟨(hw _ (List.mem_of_getElem? (i := 44) rfl)), rfl, hnm⟩) (hw _ (List.mem_of_getElem? (i := 27) rfl)) (ty := .boolean) (v' := .int (p7 &&& 1)) (by decide) rfl (fits_nar_bool _) (g := (mkF m 34 #[.val (.ref a1), .val (.ref a2), .val (.ref a3), .val .null, .val (.int p5), .val (.int p6), .val (.int p7), .val (.long q8), .second, .val (.int p9), .val (.ref a10)] [(.int p7), (.ref a1)])) rfl rfl (hb hby d6_34)
  have f73 := f59.wr W72
  have f74 := f60.other W72 (Or.inr (slot_ne (Or.inr (hw _ (List.mem_of_getElem? (i := 34) rfl))) (Or.inr (hw _ (List.mem_of_getElem? (i := 44) rfl))) (by decide) (t := (.object "java/lang/String")) (t' := .boolean) (by decide) (by decide)))
  have f75 := f61.other W72 (Or.inr (slot_ne (Or.inr (hw _ (List.mem_of_getElem? (i := 36) rfl))) (Or.inr (hw _ (List.mem_of_getElem? (i := 44) rfl))) (by decide) (t := (.object "java/lang/String")) (t' := .boolean) (by decide) (by decide)))
  have f76 := f62.other W72 (Or.inr (slot_ne (Or.inr (hw _ (List.mem_of_getElem? (i := 38) rfl))) (Or.inr (hw _ (List.mem_of_getElem? (i := 44) rfl))) (by decide) (t := (.object "java/lang/String")) (t' := .boolean) (by decide) (by decide)))
  have f77 := f63.other W72 (Or.inr (slot_ne (Or.inr (hw _ (List.mem_of_getElem? (i := 40) rfl))) (Or.inr (hw _ (List.mem_of_getElem? (i := 44) rfl))) (by decide) (t := .boolean) (t' := .boolean) (by decide) (by decide)))
  have f78 := f64.other W72 (Or.inr (slot_ne (Or.inr (hw _ (List.mem_of_getElem? (i := 42) rfl))) (Or.inr (hw _ (List.mem_of_getElem? (i := 44) rfl))) (by decide) (t := .boolean) (t' := .boolean) (by decide) (by decide)))
  have f79 := f65.same W72
  have f80 := f66.other W72 (Or.inr (slot_ne (Or.inr (hw _ (List.mem_of_getElem? (i := 46) rfl))) (Or.inr (hw _ (List.mem_of_getElem? (i := 44) rfl))) (by decide) (t := .long) (t' := .boolean) (by decide) (by decide)))
  have f81 := f67.other W72 (Or.inr (slot_ne (Or.inr (hw _ (List.mem_of_getElem? (i := 48) rfl))) (Or.inr (hw _ (List.mem_of_getElem? (i := 44) rfl))) (by decide) (t := .boolean) (t' := .boolean) (by decide) (by decide)))
  have f82 := f68.other W72 (Or.inr (slot_ne (Or.inr (hw _ (List.mem_of_getElem? (i := 50) rfl))) (Or.inr (hw _ (List.mem_of_getElem? (i := 44) rfl))) (by decide) (t := (.array .byte)) (t' := .boolean) (by decide) (by decide)))
  have kp83 := kp69.wr W72 (Or.inl (List.mem_of_getElem? (i := 0) rfl))
  have z84 := Nat.le_trans z70 (Keep.of_wr W72).1
  have N85 := Fr.snoc X72 N71 g_a1
  obtain ⟨T86, h86, X86, e86, W86, st86⟩ := putF X72 hx hZ hown (host := "") (Or.inl (hw _ (List.mem_of_getElem? (i := 45) rfl))) Via.refl e72 f80 f73 (Or.inr ⟨(hw _ (List.mem_of_getElem? (i := 46) rfl)), rfl, hnm⟩) (hw _ (List.mem_of_getElem? (i := 27) rfl)) (ty := .long) (by decide) rfl rfl (g := (mkF m 40 #[.val (.ref a1), .val (.ref a2), .val (.ref a3), .val .null, .val (.int p5), .val (.int p6), .val (.int p7), .val (.long q8), .second, .val (.int p9), .val (.ref a10)] [(.long q8), (.ref a1)])) rfl rfl (hb hby d6_40)
  have f87 := f73.wr W86
  have f88 := f74.other W86 (Or.inr (slot_ne (Or.inr (hw _ (List.mem_of_getElem? (i := 34) rfl))) (Or.inr (hw _ (List.mem_of_getElem? (i := 46) rfl))) (by decide) (t := (.object "java/lang/String")) (t' := .long) (by decide) (by decide)))
  have f89 := f75.other W86 (Or.inr (slot_ne (Or.inr (hw _ (List.mem_of_getElem? (i := 36) rfl))) (Or.inr (hw _ (List.mem_of_getElem? (i := 46) rfl))) (by decide) (t := (.object "java/lang/String")) (t' := .long) (by decide) (by decide)))
  have f90 := f76.other W86 (Or.inr (slot_ne (Or.inr (hw _ (List.mem_of_getElem? (i := 38) rfl))) (Or.inr (hw _ (List.mem_of_getElem? (i := 46) rfl))) (by decide) (t := (.object "java/lang/String")) (t' := .long) (by decide) (by decide)))
  have f91 := f77.other W86 (Or.inr (slot_ne (Or.inr (hw _ (List.mem_of_getElem? (i := 40) rfl))) (Or.inr (hw _ (List.mem_of_getElem? (i := 46) rfl))) (by decide) (t := .boolean) (t' := .long) (by decide) (by decide)))
  have f92 := f78.other W86 (Or.inr (slot_ne (Or.inr (hw _ (List.mem_of_getElem? (i := 42) rfl))) (Or.inr (hw _ (List.mem_of_getElem? (i := 46) rfl))) (by decide) (t := .boolean) (t' := .long) (by decide) (by decide)))
  have f93 := f79.other W86 (Or.inr (slot_ne (Or.inr (hw _ (List.mem_of_getElem? (i := 44) rfl))) (Or.inr (hw _ (List.mem_of_getElem? (i := 46) rfl))) (by decide) (t := .boolean) (t' := .long) (by decide) (by decide)))
  have f94 := f80.same W86
  have f95 := f81.other W86 (Or.inr (slot_ne (Or.inr (hw _ (List.mem_of_getElem? (i := 48) rfl))) (Or.inr (hw _ (List.mem_of_getElem? (i := 46) rfl))) (by decide) (t := .boolean) (t' := .long) (by decide) (by decide)))
  have f96 := f82.other W86 (Or.inr (slot_ne (Or.inr (hw _ (List.mem_of_getElem? (i := 50) rfl))) (Or.inr (hw _ (List.mem_of_getElem? (i := 46) rfl))) (by decide) (t := (.array .byte)) (t' := .long) (by decide) (by decide)))
  have kp97 := kp83.wr W86 (Or.inl (List.mem_of_getElem? (i := 0) rfl))
  have z98 := Nat.le_trans z84 (Keep.of_wr W86).1
  have N99 := Fr.snoc X86 N85 g_a1
  obtain ⟨T100, h100, X100, e100, W100, st100⟩ := putFN X86 hx hZ hown (hw _ (List.mem_of_getElem? (i := 47) rfl)) Via.refl e86 f95 f87 (Or.inr ⟨(hw _ (List.mem_of_getElem? (i := 48) rfl)), rfl, hnm⟩) (hw _ (List.mem_of_getElem? (i := 27) rfl)) (ty := .boolean) (v' := .int (p9 &&& 1)) (by decide) rfl (fits_nar_bool _) (g := (mkF m 46 #[.val (.ref a1), .val (.ref a2), .val (.ref a3), .val .null, .val (.int p5), .val (.int p6), .val (.int p7), .val (.long q8), .second, .val (.int p9), .val (.ref a10)] [(.int p9), (.ref a1)])) rfl rfl (hb hby d6_46)
  have f101 := f87.wr W100
  have f102 := f88.other W100 (Or.inr (slot_ne (Or.inr (hw _ (List.mem_of_getElem? (i := 34) rfl))) (Or.inr (hw _ (List.mem_of_getElem? (i := 48) rfl))) (by decide) (t := (.object "java/lang/String")) (t' := .boolean) (by decide) (by decide)))
  have f103 := f89.other W100 (Or.inr (slot_ne (Or.inr (hw _ (List.mem_of_getElem? (i := 36) rfl))) (Or.inr (hw _ (List.mem_of_getElem? (i := 48) rfl))) (by decide) (t := (.object "java/lang/String")) (t' := .boolean) (by decide) (by decide)))
  have f104 := f90.other W100 (Or.inr (slot_ne (Or.inr (hw _ (List.mem_of_getElem? (i := 38) rfl))) (Or.inr (hw _ (List.mem_of_getElem? (i := 48) rfl))) (by decide) (t := (.object "java/lang/String")) (t' := .boolean) (by decide) (by decide)))
  have f105 := f91.other W100 (Or.inr (slot_ne (Or.inr (hw _ (List.mem_of_getElem? (i := 40) rfl))) (Or.inr (hw _ (List.mem_of_getElem? (i := 48) rfl))) (by decide) (t := .boolean) (t' := .boolean) (by decide) (by decide)))
  have f106 := f92.other W100 (Or.inr (slot_ne (Or.inr (hw _ (List.mem_of_getElem? (i := 42) rfl))) (Or.inr (hw _ (List.mem_of_getElem? (i := 48) rfl))) (by decide) (t := .boolean) (t' := .boolean) (by decide) (by decide)))
  have f107 := f93.other W100 (Or.inr (slot_ne (Or.inr (hw _ (List.mem_of_getElem? (i := 44) rfl))) (Or.inr (hw _ (List.mem_of_getElem? (i := 48) rfl))) (by decide) (t := .boolean) (t' := .boolean) (by decide) (by decide)))
  have f108 := f94.other W100 (Or.inr (slot_ne (Or.inr (hw _ (List.mem_of_getElem? (i := 46) rfl))) (Or.inr (hw _ (List.mem_of_getElem? (i := 48) rfl))) (by decide) (t := .long) (t' := .boolean) (by decide) (by decide)))
  have f109 := f95.same W100
  have f110 := f96.other W100 (Or.inr (slot_ne (Or.inr (hw _ (List.mem_of_getElem? (i := 50) rfl))) (Or.inr (hw _ (List.mem_of_getElem? (i := 48) rfl))) (by decide) (t := (.array .byte)) (t' := .boolean) (by decide) (by decide)))
  have kp111 := kp97.wr W100 (Or.inl (List.mem_of_getElem? (i := 0) rfl))
  have z112 := Nat.le_trans z98 (Keep.of_wr W100).1
  have N113 := Fr.snoc X100 N99 g_a1
  obtain ⟨T114, h114, X114, e114, W114, st114⟩ := putF X100 hx hZ hown (host := "") (Or.inl (hw _ (List.mem_of_getElem? (i := 49) rfl))) Via.refl e100 f110 f101 (Or.inr ⟨(hw _ (List.mem_of_getElem? (i := 50) rfl)), rfl, hnm⟩) (hw _ (List.mem_of_getElem? (i := 27) rfl)) (ty := (.array .byte)) (by decide) rfl rfl (g := (mkF m 52 #[.val (.ref a1), .val (.ref a2), .val (.ref a3), .val .null, .val (.int p5), .val (.int p6), .val (.int p7), .val (.long q8), .second, .val (.int p9), .val (.ref a10)] [(.ref a10), (.ref a1)])) rfl rfl (hb hby d6_52)
  have f115 := f101.wr W114
  have f116 := f102.other W114 (Or.inr (slot_ne (Or.inr (hw _ (List.mem_of_getElem? (i := 34) rfl))) (Or.inr (hw _ (List.mem_of_getElem? (i := 50) rfl))) (by decide) (t := (.object "java/lang/String")) (t' := (.array .byte)) (by decide) (by decide)))
  have f117 := f103.other W114 (Or.inr (slot_ne (Or.inr (hw _ (List.mem_of_getElem? (i := 36) rfl))) (Or.inr (hw _ (List.mem_of_getElem? (i := 50) rfl))) (by decide) (t := (.object "java/lang/String")) (t' := (.array .byte)) (by decide) (by decide)))
  have f118 := f104.other W114 (Or.inr (slot_ne (Or.inr (hw _ (List.mem_of_getElem? (i := 38) rfl))) (Or.inr (hw _ (List.mem_of_getElem? (i := 50) rfl))) (by decide) (t := (.object "java/lang/String")) (t' := (.array .byte)) (by decide) (by decide)))
  have f119 := f105.other W114 (Or.inr (slot_ne (Or.inr (hw _ (List.mem_of_getElem? (i := 40) rfl))) (Or.inr (hw _ (List.mem_of_getElem? (i := 50) rfl))) (by decide) (t := .boolean) (t' := (.array .byte)) (by decide) (by decide)))
  have f120 := f106.other W114 (Or.inr (slot_ne (Or.inr (hw _ (List.mem_of_getElem? (i := 42) rfl))) (Or.inr (hw _ (List.mem_of_getElem? (i := 50) rfl))) (by decide) (t := .boolean) (t' := (.array .byte)) (by decide) (by decide)))
  have f121 := f107.other W114 (Or.inr (slot_ne (Or.inr (hw _ (List.mem_of_getElem? (i := 44) rfl))) (Or.inr (hw _ (List.mem_of_getElem? (i := 50) rfl))) (by decide) (t := .boolean) (t' := (.array .byte)) (by decide) (by decide)))
  have f122 := f108.other W114 (Or.inr (slot_ne (Or.inr (hw _ (List.mem_of_getElem? (i := 46) rfl))) (Or.inr (hw _ (List.mem_of_getElem? (i := 50) rfl))) (by decide) (t := .long) (t' := (.array .byte)) (by decide) (by decide)))
  have f123 := f109.other W114 (Or.inr (slot_ne (Or.inr (hw _ (List.mem_of_getElem? (i := 48) rfl))) (Or.inr (hw _ (List.mem_of_getElem? (i := 50) rfl))) (by decide) (t := .boolean) (t' := (.array .byte)) (by decide) (by decide)))
  have f124 := f110.same W114
  have kp125 := kp111.wr W114 (Or.inl (List.mem_of_getElem? (i := 0) rfl))
  have z126 := Nat.le_trans z112 (Keep.of_wr W114).1
  have N127 := Fr.snoc X114 N113 g_a1
  obtain ⟨fs, hr, hrun, hended, hW, hsame⟩ := X114.leave (v := none) (fun _ => rfl)
  refine ⟨_, _, pre0 _ ?_, hrun, hended, _, _, rfl, ?_, ⟨_, rfl⟩, hW, hsame.mono (by decide) (by decide)⟩
  · show Steps p.tables e below (s₁.setTop (mkF m 0 #[.val (.ref a1), .val (.ref a2), .val (.ref a3), .val .null, .val (.int p5), .val (.int p6), .val (.int p7), .val (.long q8), .second, .val (.int p9), .val (.ref a10)] [])) _
    refine XS.aloadN X0.here hx rfl (hb hby d6_0) rfl rfl ?_
    show Steps p.tables e below (s₁.setTop (mkF m 1 #[.val (.ref a1), .val (.ref a2), .val (.ref a3), .val .null, .val (.int p5), .val (.int p6), .val (.int p7), .val (.long q8), .second, .val (.int p9), .val (.ref a10)] [(.ref a1)])) _
    refine st1 _ ?_
    show Steps p.tables e below (T1.setTop (mkF m 4 #[.val (.ref a1), .val (.ref a2), .val (.ref a3), .val .null, .val (.int p5), .val (.int p6), .val (.int p7), .val (.long q8), .second, .val (.int p9), .val (.ref a10)] [])) _
    refine XS.aloadN X1.here hx rfl (hb hby d6_4) rfl rfl ?_
    show Steps p.tables e below (T1.setTop (mkF m 5 #[.val (.ref a1), .val (.ref a2), .val (.ref a3), .val .null, .val (.int p5), .val (.int p6), .val (.int p7), .val (.long q8), .second, .val (.int p9), .val (.ref a10)] [(.ref a1)])) _
    refine XS.aloadN X1.here hx rfl (hb hby d6_5) rfl rfl ?_
    show Steps p.tables e below (T1.setTop (mkF m 6 #[.val (.ref a1), .val (.ref a2), .val (.ref a3), .val .null, .val (.int p5), .val (.int p6), .val (.int p7), .val (.long q8), .second, .val (.int p9), .val (.ref a10)] [(.ref a2), (.ref a1)])) _
    refine st2 _ ?_
    show Steps p.tables e below (T2.setTop (mkF m 9 #[.val (.ref a1), .val (.ref a2), .val (.ref a3), .val .null, .val (.int p5), .val (.int p6), .val (.int p7), .val (.long q8), .second, .val (.int p9), .val (.ref a10)] [])) _
    refine XS.aloadN X2.here hx rfl (hb hby d6_9) rfl rfl ?_
    show Steps p.tables e below (T2.setTop (mkF m 10 #[.val (.ref a1), .val (.ref a2), .val (.ref a3), .val .null, .val (.int p5), .val (.int p6), .val (.int p7), .val (.long q8), .second, .val (.int p9), .val (.ref a10)] [(.ref a1)])) _
    refine XS.aloadN X2.here hx rfl (hb hby d6_10) rfl rfl ?_
    show Steps p.tables e below (T2.setTop (mkF m 11 #[.val (.ref a1), .val (.ref a2), .val (.ref a3), .val .null, .val (.int p5), .val (.int p6), .val (.int p7), .val (.long q8), .second, .val (.int p9), .val (.ref a10)] [(.ref a3), (.ref a1)])) _
    refine st16 _ ?_
    show Steps p.tables e below (T16.setTop (mkF m 14 #[.val (.ref a1), .val (.ref a2), .val (.ref a3), .val .null, .val (.int p5), .val (.int p6), .val (.int p7), .val (.long q8), .second, .val (.int p9), .val (.ref a10)] [])) _
    refine XS.aloadN X16.here hx rfl (hb hby d6_14) rfl rfl ?_
    show Steps p.tables e below (T16.setTop (mkF m 15 #[.val (.ref a1), .val (.ref a2), .val (.ref a3), .val .null, .val (.int p5), .val (.int p6), .val (.int p7), .val (.long q8), .second, .val (.int p9), .val (.ref a10)] [(.ref a1)])) _
    refine XS.aloadN X16.here hx rfl (hb hby d6_15) rfl rfl ?_
    show Steps p.tables e below (T16.setTop (mkF m 16 #[.val (.ref a1), .val (.ref a2), .val (.ref a3), .val .null, .val (.int p5), .val (.int p6), .val (.int p7), .val (.long q8), .second, .val (.int p9), .val (.ref a10)] [.null, (.ref a1)])) _
    refine st30 _ ?_
    show Steps p.tables e below (T30.setTop (mkF m 19 #[.val (.ref a1), .val (.ref a2), .val (.ref a3), .val .null, .val (.int p5), .val (.int p6), .val (.int p7), .val (.long q8), .second, .val (.int p9), .val (.ref a10)] [])) _
    refine XS.aloadN X30.here hx rfl (hb hby d6_19) rfl rfl ?_
    show Steps p.tables e below (T30.setTop (mkF m 20 #[.val (.ref a1), .val (.ref a2), .val (.ref a3), .val .null, .val (.int p5), .val (.int p6), .val (.int p7), .val (.long q8), .second, .val (.int p9), .val (.ref a10)] [(.ref a1)])) _
    refine XS.iload X30.here hx rfl (hb hby d6_20) rfl ?_
    show Steps p.tables e below (T30.setTop (mkF m 22 #[.val (.ref a1), .val (.ref a2), .val (.ref a3), .val .null, .val (.int p5), .val (.int p6), .val (.int p7), .val (.long q8), .second, .val (.int p9), .val (.ref a10)] [(.int p5), (.ref a1)])) _
    refine st44 _ ?_
    show Steps p.tables e below (T44.setTop (mkF m 25 #[.val (.ref a1), .val (.ref a2), .val (.ref a3), .val .null, .val (.int p5), .val (.int p6), .val (.int p7), .val (.long q8), .second, .val (.int p9), .val (.ref a10)] [])) _
    refine XS.aloadN X44.here hx rfl (hb hby d6_25) rfl rfl ?_
    show Steps p.tables e below (T44.setTop (mkF m 26 #[.val (.ref a1), .val (.ref a2), .val (.ref a3), .val .null, .val (.int p5), .val (.int p6), .val (.int p7), .val (.long q8), .second, .val (.int p9), .val (.ref a10)] [(.ref a1)])) _
    refine XS.iload X44.here hx rfl (hb hby d6_26) rfl ?_
    show Steps p.tables e below (T44.setTop (mkF m 28 #[.val (.ref a1), .val (.ref a2), .val (.ref a3), .val .null, .val (.int p5), .val (.int p6), .val (.int p7), .val (.long q8), .second, .val (.int p9), .val (.ref a10)] [(.int p6), (.ref a1)])) _
    refine st58 _ ?_
    show Steps p.tables e below (T58.setTop (mkF m 31 #[.val (.ref a1), .val (.ref a2), .val (.ref a3), .val .null, .val (.int p5), .val (.int p6), .val (.int p7), .val (.long q8), .second, .val (.int p9), .val (.ref a10)] [])) _
    refine XS.aloadN X58.here hx rfl (hb hby d6_31) rfl rfl ?_
    show Steps p.tables e below (T58.setTop (mkF m 32 #[.val (.ref a1), .val (.ref a2), .val (.ref a3), .val .null, .val (.int p5), .val (.int p6), .val (.int p7), .val (.long q8), .second, .val (.int p9), .val (.ref a10)] [(.ref a1)])) _
    refine XS.iload X58.here hx rfl (hb hby d6_32) rfl ?_
    show Steps p.tables e below (T58.setTop (mkF m 34 #[.val (.ref a1), .val (.ref a2), .val (.ref a3), .val .null, .val (.int p5), .val (.int p6), .val (.int p7), .val (.long q8), .second, .val (.int p9), .val (.ref a10)] [(.int p7), (.ref a1)])) _
    refine st72 _ ?_
    show Steps p.tables e below (T72.setTop (mkF m 37 #[.val (.ref a1), .val (.ref a2), .val (.ref a3), .val .null, .val (.int p5), .val (.int p6), .val (.int p7), .val (.long q8), .second, .val (.int p9), .val (.ref a10)] [])) _
    refine XS.aloadN X72.here hx rfl (hb hby d6_37) rfl rfl ?_
    show Steps p.tables e below (T72.setTop (mkF m 38 #[.val (.ref a1), .val (.ref a2), .val (.ref a3), .val .null, .val (.int p5), .val (.int p6), .val (.int p7), .val (.long q8), .second, .val (.int p9), .val (.ref a10)] [(.ref a1)])) _
    refine XS.lload X72.here hx rfl (hb hby d6_38) rfl ?_
    show Steps p.tables e below (T72.setTop (mkF m 40 #[.val (.ref a1), .val (.ref a2), .val (.ref a3), .val .null, .val (.int p5), .val (.int p6), .val (.int p7), .val (.long q8), .second, .val (.int p9), .val (.ref a10)] [(.long q8), (.ref a1)])) _
    refine st86 _ ?_
    show Steps p.tables e below (T86.setTop (mkF m 43 #[.val (.ref a1), .val (.ref a2), .val (.ref a3), .val .null, .val (.int p5), .val (.int p6), .val (.int p7), .val (.long q8), .second, .val (.int p9), .val (.ref a10)] [])) _
    refine XS.aloadN X86.here hx rfl (hb hby d6_43) rfl rfl ?_
    show Steps p.tables e below (T86.setTop (mkF m 44 #[.val (.ref a1), .val (.ref a2), .val (.ref a3), .val .null, .val (.int p5), .val (.int p6), .val (.int p7), .val (.long q8), .second, .val (.int p9), .val (.ref a10)] [(.ref a1)])) _
    refine XS.iload X86.here hx rfl (hb hby d6_44) rfl ?_
    show Steps p.tables e below (T86.setTop (mkF m 46 #[.val (.ref a1), .val (.ref a2), .val (.ref a3), .val .null, .val (.int p5), .val (.int p6), .val (.int p7), .val (.long q8), .second, .val (.int p9), .val (.ref a10)] [(.int p9), (.ref a1)])) _
    refine st100 _ ?_
    show Steps p.tables e below (T100.setTop (mkF m 49 #[.val (.ref a1), .val (.ref a2), .val (.ref a3), .val .null, .val (.int p5), .val (.int p6), .val (.int p7), .val (.long q8), .second, .val (.int p9), .val (.ref a10)] [])) _
    refine XS.aloadN X100.here hx rfl (hb hby d6_49) rfl rfl ?_
    show Steps p.tables e below (T100.setTop (mkF m 50 #[.val (.ref a1), .val (.ref a2), .val (.ref a3), .val .null, .val (.int p5), .val (.int p6), .val (.int p7), .val (.long q8), .second, .val (.int p9), .val (.ref a10)] [(.ref a1)])) _
    refine XS.aload X100.here hx rfl (hb hby d6_50) rfl rfl ?_
    show Steps p.tables e below (T100.setTop (mkF m 52 #[.val (.ref a1), .val (.ref a2), .val (.ref a3), .val .null, .val (.int p5), .val (.int p6), .val (.int p7), .val (.long q8), .second, .val (.int p9), .val (.ref a10)] [(.ref a10), (.ref a1)])) _
    refine st114 _ ?_
    show Steps p.tables e below (T114.setTop (mkF m 55 #[.val (.ref a1), .val (.ref a2), .val (.ref a3), .val .null, .val (.int p5), .val (.int p6), .val (.int p7), .val (.long q8), .second, .val (.int p9), .val (.ref a10)] [])) _
    exact X114.returnOut hx Bd.returns (hb hby d6_55) hr
  · show own_QR Z a1 p5 p6 h0 n0 _ T114.heap _
    rw [e114]
    exact ⟨rfl, N127, kp125, f115, f119, f120⟩
theorem ef_6_vvvvvvvvvn (m : MethodId) (x0 : Addr) (x1 : Addr) (x2 : Addr) (x3 : Addr) (x4 : Int32) (x5 : Int32) (x6 : Int32) (x7 : Int64) (x8 : Int32) : entryFrame m #[(.ref x0), (.ref x1), (.ref x2), (.ref x3), (.int x4), (.int x5), (.int x6), (.long x7), (.int x8), .null] 11 = mkF m 0 #[.val (.ref x0), .val (.ref x1), .val (.ref x2), .val (.ref x3), .val (.int x4), .val (.int x5), .val (.int x6), .val (.long x7), .second, .val (.int x8), .val .null] [] := by first | (simp [entryFrame, mkF, argsToLocals, Value.category]; done) | rfl
set_option maxRecDepth 65536 in
set_option maxHeartbeats 40000000 in
theorem rm6q (l : Launch) (Z : State) (a0 : Array Value) (hw : ∀ d ∈ tables_1, d.before a0 Z = true) (ws : List Jvm.Cond) (a1 a2 a3 a4 : Addr) (p5 p6 p7 : Int32) (q8 : Int64) (p9 : Int32) (h0 : Heap) (n0 : Nat) (Z0 : n0 ≤ h0.size) (E_a1 : Exa Z h0 a1 "com/example/hatchd/hatchd/server/RequestReader$Request") (F_method : Fld Z h0 a1 "com/example/hatchd/hatchd/server/RequestReader$Request" "method" "Ljava/lang/String;" .null) (F_path : Fld Z h0 a1 "com/example/hatchd/hatchd/server/RequestReader$Request" "path" "Ljava/lang/String;" .null) (F_query : Fld Z h0 a1 "com/example/hatchd/hatchd/server/RequestReader$Request" "query" "Ljava/lang/String;" .null) (F_http10 : Fld Z h0 a1 "com/example/hatchd/hatchd/server/RequestReader$Request" "http10" "Z" (.int (0 : Int32))) (F_close : Fld Z h0 a1 "com/example/hatchd/hatchd/server/RequestReader$Request" "close" "Z" (.int (0 : Int32))) (F_chunked : Fld Z h0 a1 "com/example/hatchd/hatchd/server/RequestReader$Request" "chunked" "Z" (.int (0 : Int32))) (F_contentLength : Fld Z h0 a1 "com/example/hatchd/hatchd/server/RequestReader$Request" "contentLength" "J" (.long (0 : Int64))) (F_expectsContinue : Fld Z h0 a1 "com/example/hatchd/hatchd/server/RequestReader$Request" "expectsContinue" "Z" (.int (0 : Int32))) (F_body : Fld Z h0 a1 "com/example/hatchd/hatchd/server/RequestReader$Request" "body" "[B" .null) (g_a1 : n0 ≤ a1) :
    MetFree l (⟨"com/example/hatchd/hatchd/server/RequestReader$Request", "<init>", "(Ljava/lang/String;Ljava/lang/String;Ljava/lang/String;ZZZJZ[B)V"⟩ : MethodName) (head1 (Jvm.Cond.code (⟨"com/example/hatchd/hatchd/server/RequestReader$Request", "<init>", "(Ljava/lang/String;Ljava/lang/String;Ljava/lang/String;ZZZJZ[B)V"⟩ : MethodName) prog_41_method_1_code 11 none :: ws) ({ frames := 1, cells := 0, slots := 0, locals := 12 } : Room)) (fun a U => a = #[(.ref a1), (.ref a2), (.ref a3), (.ref a4), (.int p5), (.int p6), (.int p7), (.long q8), (.int p9), .null] ∧ Z.Warmed39 U.vm ∧ U.heap = h0) (fun _ _ _ _ _ => True) (fun _ U o U' => ∃ v L, o = .returned v ∧ own_QR Z a1 p5 p6 h0 n0 v U'.heap L ∧ FrameEnd U o U' L ({ frames := 1, cells := 0, slots := 0, locals := 12 } : Room).cells ({ frames := 1, cells := 0, slots := 0, locals := 12 } : Room).slots) := by
  refine MetFree.of_bodySF (plainFor_of_name pn_6) hisR ?_
  intro p e s m args below meth c s₁ Bd hml0 hP hK
  obtain ⟨rfl, hZ, hh⟩ := hP
  have hx := Bd.exec
  have hby := Bd.bytes
  have hml : c.maxLocals = 11 := hml0
  have hown : s.vm.findClass "com/example/hatchd/hatchd/server/RequestReader$Request" = some m.cls := findClass_of_methodNamed Bd.named
  have hnm := (name_of_methodNamed Bd.named Bd.method).1
  have X0 : Stand p l e ({ frames := 1, cells := 0, slots := 0, locals := 12 } : Room) s m #[(.ref a1), (.ref a2), (.ref a3), (.ref a4), (.int p5), (.int p6), (.int p7), (.long q8), (.int p9), .null] below meth c s₁ [] 0 0 := Stand.of_body Bd
  have e0 : s₁.heap = h0 := by rw [← hh, Bd.state]; rfl
  have N0 := Fr.nil n0
  have pre0 : ∀ tq, Steps p.tables e below (s₁.setTop (mkF m 0 #[.val (.ref a1), .val (.ref a2), .val (.ref a3), .val (.ref a4), .val (.int p5), .val (.int p6), .val (.int p7), .val (.long q8), .second, .val (.int p9), .val .null] [])) tq → Steps p.tables e below (s₁.setTop (entryFrame m #[(.ref a1), (.ref a2), (.ref a3), (.ref a4), (.int p5), (.int p6), (.int p7), (.long q8), (.int p9), .null] 11)) tq := fun tq k => castTop (ef_6_vvvvvvvvvn m a1 a2 a3 a4 p5 p6 p7 q8 p9) k
  obtain ⟨T1, X1, e1, st1⟩ := initO X0 hx hZ hown (hw _ (List.mem_of_getElem? (i := 32) rfl)) (hw _ (List.mem_of_getElem? (i := 20) rfl)) (hw _ (List.mem_of_getElem? (i := 21) rfl)) e0 (g := (mkF m 1 #[.val (.ref a1), .val (.ref a2), .val (.ref a3), .val (.ref a4), .val (.int p5), .val (.int p6), .val (.int p7), .val (.long q8), .second, .val (.int p9), .val .null] [(.ref a1)])) rfl (by rw [hml]; rfl) rfl (hb hby d6_1) (by decide) (W := 0) (by show 2 * 0 + _ ≤ _; exact Nat.le_of_eq rfl) (by decide)
  obtain ⟨T2, h2, X2, e2, W2, st2⟩ := putF X1 hx hZ hown (host := "") (Or.inl (hw _ (List.mem_of_getElem? (i := 33) rfl))) Via.refl e1 F_method E_a1 (Or.inr ⟨(hw _ (List.mem_of_getElem? (i := 34) rfl)), rfl, hnm⟩) (hw _ (List.mem_of_getElem? (i := 27) rfl)) (ty := (.object "java/lang/String")) (by decide) rfl rfl (g := (mkF m 6 #[.val (.ref a1), .val (.ref a2), .val (.ref a3), .val (.ref a4), .val (.int p5), .val (.int p6), .val (.int p7), .val (.long q8), .second, .val (.int p9), .val .null] [(.ref a2), (.ref a1)])) rfl rfl (hb hby d6_6)
  have f3 := E_a1.wr W2
  have f4 := F_method.same W2
  have f5 := F_path.other W2 (Or.inr (slot_ne (Or.inr (hw _ (List.mem_of_getElem? (i := 36) rfl))) (Or.inr (hw _ (List.mem_of_getElem? (i := 34) rfl))) (by decide) (t := (.object "java/lang/String")) (t' := (.object "java/lang/String")) (by decide) (by decide)))
  have f6 := F_query.other W2 (Or.inr (slot_ne (Or.inr (hw _ (List.mem_of_getElem? (i := 38) rfl))) (Or.inr (hw _ (List.mem_of_getElem? (i := 34) rfl))) (by decide) (t := (.object "java/lang/String")) (t' := (.object "java/lang/String")) (by decide) (by decide)))
  have f7 := F_http10.other W2 (Or.inr (slot_ne (Or.inr (hw _ (List.mem_of_getElem? (i := 40) rfl))) (Or.inr (hw _ (List.mem_of_getElem? (i := 34) rfl))) (by decide) (t := .boolean) (t' := (.object "java/lang/String")) (by decide) (by decide)))
  have f8 := F_close.other W2 (Or.inr (slot_ne (Or.inr (hw _ (List.mem_of_getElem? (i := 42) rfl))) (Or.inr (hw _ (List.mem_of_getElem? (i := 34) rfl))) (by decide) (t := .boolean) (t' := (.object "java/lang/String")) (by decide) (by decide)))
  have f9 := F_chunked.other W2 (Or.inr (slot_ne (Or.inr (hw _ (List.mem_of_getElem? (i := 44) rfl))) (Or.inr (hw _ (List.mem_of_getElem? (i := 34) rfl))) (by decide) (t := .boolean) (t' := (.object "java/lang/String")) (by decide) (by decide)))
  have f10 := F_contentLength.other W2 (Or.inr (slot_ne (Or.inr (hw _ (List.mem_of_getElem? (i := 46) rfl))) (Or.inr (hw _ (List.mem_of_getElem? (i := 34) rfl))) (by decide) (t := .long) (t' := (.object "java/lang/String")) (by decide) (by decide)))
  have f11 := F_expectsContinue.other W2 (Or.inr (slot_ne (Or.inr (hw _ (List.mem_of_getElem? (i := 48) rfl))) (Or.inr (hw _ (List.mem_of_getElem? (i := 34) rfl))) (by decide) (t := .boolean) (t' := (.object "java/lang/String")) (by decide) (by decide)))
  have f12 := F_body.other W2 (Or.inr (slot_ne (Or.inr (hw _ (List.mem_of_getElem? (i := 50) rfl))) (Or.inr (hw _ (List.mem_of_getElem? (i := 34) rfl))) (by decide) (t := (.array .byte)) (t' := (.object "java/lang/String")) (by decide) (by decide)))
  have kp13 := (Keep.refl h0 [a1]).wr W2 (Or.inl (List.mem_of_getElem? (i := 0) rfl))
  have z14 := Nat.le_trans Z0 (Keep.of_wr W2).1
  have N15 := Fr.snoc X2 N0 g_a1
  obtain ⟨T16, h16, X16, e16, W16, st16⟩ := putF X2 hx hZ hown (host := "") (Or.inl (hw _ (List.mem_of_getElem? (i := 35) rfl))) Via.refl e2 f5 f3 (Or.inr ⟨(hw _ (List.mem_of_getElem? (i := 36) rfl)), rfl, hnm⟩) (hw _ (List.mem_of_getElem? (i := 27) rfl)) (ty := (.object "java/lang/String")) (by decide) rfl rfl (g := (mkF m 11 #[.val (.ref a1), .val (.ref a2), .val (.ref a3), .val (.ref a4), .val (.int p5), .val (.int p6), .val (.int p7), .val (.long q8), .second, .val (.int p9), .val .null] [(.ref a3), (.ref a1)])) rfl rfl (hb hby d6_11)
  have f17 := f3.wr W16
  have f18 := f4.other W16 (Or.inr (slot_ne (Or.inr (hw _ (List.mem_of_getElem? (i := 34) rfl))) (Or.inr (hw _ (List.mem_of_getElem? (i := 36) rfl))) (by decide) (t := (.object "java/lang/String")) (t' := (.object "java/lang/String")) (by decide) (by decide)))
  have f19 := f5.same W16
  have f20 := f6.other W16 (Or.inr (slot_ne (Or.inr (hw _ (List.mem_of_getElem? (i := 38) rfl))) (Or.inr (hw _ (List.mem_of_getElem? (i := 36) rfl))) (by decide) (t := (.object "java/lang/String")) (t' := (.object "java/lang/String")) (by decide) (by decide)))
  have f21 := f7.other W16 (Or.inr (slot_ne (Or.inr (hw _ (List.mem_of_getElem? (i := 40) rfl))) (Or.inr (hw _ (List.mem_of_getElem? (i := 36) rfl))) (by decide) (t := .boolean) (t' := (.object "java/lang/String")) (by decide) (by decide)))
  have f22 := f8.other W16 (Or.inr (slot_ne (Or.inr (hw _ (List.mem_of_getElem? (i := 42) rfl))) (Or.inr (hw _ (List.mem_of_getElem? (i := 36) rfl))) (by decide) (t := .boolean) (t' := (.object "java/lang/String")) (by decide) (by decide)))
  have f23 := f9.other W16 (Or.inr (slot_ne (Or.inr (hw _ (List.mem_of_getElem? (i := 44) rfl))) (Or.inr (hw _ (List.mem_of_getElem? (i := 36) rfl))) (by decide) (t := .boolean) (t' := (.object "java/lang/String")) (by decide) (by decide)))
  have f24 := f10.other W16 (Or.inr (slot_ne (Or.inr (hw _ (List.mem_of_getElem? (i := 46) rfl))) (Or.inr (hw _ (List.mem_of_getElem? (i := 36) rfl))) (by decide) (t := .long) (t' := (.object "java/lang/String")) (by decide) (by decide)))
  have f25 := f11.other W16 (Or.inr (slot_ne (Or.inr (hw _ (List.mem_of_getElem? (i := 48) rfl))) (Or.inr (hw _ (List.mem_of_getElem? (i := 36) rfl))) (by decide) (t := .boolean) (t' := (.object "java/lang/String")) (by decide) (by decide)))
  have f26 := f12.other W16 (Or.inr (slot_ne (Or.inr (hw _ (List.mem_of_getElem? (i := 50) rfl))) (Or.inr (hw _ (List.mem_of_getElem? (i := 36) rfl))) (by decide) (t := (.array .byte)) (t' := (.object "java/lang/String")) (by decide) (by decide)))
  have kp27 := kp13.wr W16 (Or.inl (List.mem_of_getElem? (i := 0) rfl))
  have z28 := Nat.le_trans z14 (Keep.of_wr W16).1
  have N29 := Fr.snoc X16 N15 g_a1
  obtain ⟨T30, h30, X30, e30, W30, st30⟩ := putF X16 hx hZ hown (host := "") (Or.inl (hw _ (List.mem_of_getElem? (i := 37) rfl))) Via.refl e16 f20 f17 (Or.inr ⟨(hw _ (List.mem_of_getElem? (i := 38) rfl)), rfl, hnm⟩) (hw _ (List.mem_of_getElem? (i := 27) rfl)) (ty := (.object "java/lang/String")) (by decide) rfl rfl (g := (mkF m 16 #[.val (.ref a1), .val (.ref a2), .val (.ref a3), .val (.ref a4), .val (.int p5), .val (.int p6), .val (.int p7), .val (.long q8), .second, .val (.int p9), .val .null] [(.ref a4), (.ref a1)])) rfl rfl (hb hby d6_16)
  have f31 := f17.wr W30
  have f32 := f18.other W30 (Or.inr (slot_ne (Or.inr (hw _ (List.mem_of_getElem? (i := 34) rfl))) (Or.inr (hw _ (List.mem_of_getElem? (i := 38) rfl))) (by decide) (t := (.object "java/lang/String")) (t' := (.object "java/lang/String")) (by decide) (by decide)))
  have f33 := f19.other W30 (Or.inr (slot_ne (Or.inr (hw _ (List.mem_of_getElem? (i := 36) rfl))) (Or.inr (hw _ (List.mem_of_getElem? (i := 38) rfl))) (by decide) (t := (.object "java/lang/String")) (t' := (.object "java/lang/String")) (by decide) (by decide)))
  have f34 := f20.same W30
  have f35 := f21.other W30 (Or.inr (slot_ne (Or.inr (hw _ (List.mem_of_getElem? (i := 40) rfl))) (Or.inr (hw _ (List.mem_of_getElem? (i := 38) rfl))) (by decide) (t := .boolean) (t' := (.object "java/lang/String")) (by decide) (by decide)))
  have f36 := f22.other W30 (Or.inr (slot_ne (Or.inr (hw _ (List.mem_of_getElem? (i := 42) rfl))) (Or.inr (hw _ (List.mem_of_getElem? (i := 38) rfl))) (by decide) (t := .boolean) (t' := (.object "java/lang/String")) (by decide) (by decide)))
  have f37 := f23.other W30 (Or.inr (slot_ne (Or.inr (hw _ (List.mem_of_getElem? (i := 44) rfl))) (Or.inr (hw _ (List.mem_of_getElem? (i := 38) rfl))) (by decide) (t := .boolean) (t' := (.object "java/lang/String")) (by decide) (by decide)))
  have f38 := f24.other W30 (Or.inr (slot_ne (Or.inr (hw _ (List.mem_of_getElem? (i := 46) rfl))) (Or.inr (hw _ (List.mem_of_getElem? (i := 38) rfl))) (by decide) (t := .long) (t' := (.object "java/lang/String")) (by decide) (by decide)))
  have f39 := f25.other W30 (Or.inr (slot_ne (Or.inr (hw _ (List.mem_of_getElem? (i := 48) rfl))) (Or.inr (hw _ (List.mem_of_getElem? (i := 38) rfl))) (by decide) (t := .boolean) (t' := (.object "java/lang/String")) (by decide) (by decide)))
  have f40 := f26.other W30 (Or.inr (slot_ne (Or.inr (hw _ (List.mem_of_getElem? (i := 50) rfl))) (Or.inr (hw _ (List.mem_of_getElem? (i := 38) rfl))) (by decide) (t := (.array .byte)) (t' := (.object "java/lang/String")) (by decide) (by decide)))
  have kp41 := kp27.wr W30 (Or.inl (List.mem_of_getElem? (i := 0) rfl))
  have z42 := Nat.le_trans z28 (Keep.of_wr W30).1
  have N43 := Fr.snoc X30 N29 g_a1
  obtain ⟨T44, h44, X44, e44, W44, st44⟩ := putFN X30 hx hZ hown (hw _ (List.mem_of_getElem? (i := 39) rfl)) Via.refl e30 f35 f31 (Or.inr ⟨(hw _ (List.mem_of_getElem? (i := 40) rfl)), rfl, hnm⟩) (hw _ (List.mem_of_getElem? (i := 27) rfl)) (ty := .boolean) (v' := .int (p5 &&& 1)) (by decide) rfl (fits_nar_bool _) (g := (mkF m 22 #[.val (.ref a1), .val (.ref a2), .val (.ref a3), .val (.ref a4), .val (.int p5), .val (.int p6), .val (.int p7), .val (.long q8), .second, .val (.int p9), .val .null] [(.int p5), (.ref a1)])) rfl rfl (hb hby d6_22)
  have f45 := f31.wr W44
  have f46 := f32.other W44 (Or.inr (slot_ne (Or.inr (hw _ (List.mem_of_getElem? (i := 34) rfl))) (Or.inr (hw _ (List.mem_of_getElem? (i := 40) rfl))) (by decide) (t := (.object "java/lang/String")) (t' := .boolean) (by decide) (by decide)))
  have f47 := f33.other W44 (Or.inr (slot_ne (Or.inr (hw _ (List.mem_of_getElem? (i := 36) rfl))) (Or.inr (hw _ (List.mem_of_getElem? (i := 40) rfl))) (by decide) (t := (.object "java/lang/String")) (t' := .boolean) (by decide) (by decide)))
  have f48 := f34.other W44 (Or.inr (slot_ne (Or.inr (hw _ (List.mem_of_getElem? (i := 38) rfl))) (Or.inr (hw _ (List.mem_of_getElem? (i := 40) rfl))) (by decide) (t := (.object "java/lang/String")) (t' := .boolean) (by decide) (by decide)))
  have f49 := f35.same W44
  have f50 := f36.other W44 (Or.inr (slot_ne (Or.inr (hw _ (List.mem_of_getElem? (i := 42) rfl))) (Or.inr (hw _ (List.mem_of_getElem? (i := 40) rfl))) (by decide) (t := .boolean) (t' := .boolean) (by decide) (by decide)))
  have f51 := f37.other W44 (Or.inr (slot_ne (Or.inr (hw _ (List.mem_of_getElem? (i := 44) rfl))) (Or.inr (hw _ (List.mem_of_getElem? (i := 40) rfl))) (by decide) (t := .boolean) (t' := .boolean) (by decide) (by decide)))
  have f52 := f38.other W44 (Or.inr (slot_ne (Or.inr (hw _ (List.mem_of_getElem? (i := 46) rfl))) (Or.inr (hw _ (List.mem_of_getElem? (i := 40) rfl))) (by decide) (t := .long) (t' := .boolean) (by decide) (by decide)))
  have f53 := f39.other W44 (Or.inr (slot_ne (Or.inr (hw _ (List.mem_of_getElem? (i := 48) rfl))) (Or.inr (hw _ (List.mem_of_getElem? (i := 40) rfl))) (by decide) (t := .boolean) (t' := .boolean) (by decide) (by decide)))
  have f54 := f40.other W44 (Or.inr (slot_ne (Or.inr (hw _ (List.mem_of_getElem? (i := 50) rfl))) (Or.inr (hw _ (List.mem_of_getElem? (i := 40) rfl))) (by decide) (t := (.array .byte)) (t' := .boolean) (by decide) (by decide)))
  have kp55 := kp41.wr W44 (Or.inl (List.mem_of_getElem? (i := 0) rfl))
  have z56 := Nat.le_trans z42 (Keep.of_wr W44).1
  have N57 := Fr.snoc X44 N43 g_a1
  obtain ⟨T58, h58, X58, e58, W58, st58⟩ := putFN X44 hx hZ hown (hw _ (List.mem_of_getElem? (i := 41) rfl)) Via.refl e44 f50 f45 (Or.inr ⟨(hw _ (List.mem_of_getElem? (i := 42) rfl)), rfl, hnm⟩) (hw _ (List.mem_of_getElem? (i := 27) rfl)) (ty := .boolean) (v' := .int (p6 &&& 1)) (by decide) rfl (fits_nar_bool _) (g := (mkF m 28 #[.val (.ref a1), .val (.ref a2), .val (.ref a3), .val (.ref a4), .val (.int p5), .val (.int p6), .val (.int p7), .val (.long q8), .second, .val (.int p9), .val .null] [(.int p6), (.ref a1)])) rfl rfl (hb hby d6_28)
  have f59 := f45.wr W58
  have f60 := f46.other W58 (Or.inr (slot_ne (Or.inr (hw _ (List.mem_of_getElem? (i := 34) rfl))) (Or.inr (hw _ (List.mem_of_getElem? (i := 42) rfl))) (by decide) (t := (.object "java/lang/String")) (t' := .boolean) (by decide) (by decide)))
  have f61 := f47.other W58 (Or.inr (slot_ne (Or.inr (hw _ (List.mem_of_getElem? (i := 36) rfl))) (Or.inr (hw _ (List.mem_of_getElem? (i := 42) rfl))) (by decide) (t := (.object "java/lang/String")) (t' := .boolean) (by decide) (by decide)))
  have f62 := f48.other W58 (Or.inr (slot_ne (Or.inr (hw _ (List.mem_of_getElem? (i := 38) rfl))) (Or.inr (hw _ (List.mem_of_getElem? (i := 42) rfl))) (by decide) (t := (.object "java/lang/String")) (t' := .boolean) (by decide) (by decide)))
  have f63 := f49.other W58 (Or.inr (slot_ne (Or.inr (hw _ (List.mem_of_getElem? (i := 40) rfl))) (Or.inr (hw _ (List.mem_of_getElem? (i := 42) rfl))) (by decide) (t := .boolean) (t' := .boolean) (by decide) (by decide)))
  have f64 := f50.same W58
  have f65 := f51.other W58 (Or.inr (slot_ne (Or.inr (hw _ (List.mem_of_getElem? (i := 44) rfl))) (Or.inr (hw _ (List.mem_of_getElem? (i := 42) rfl))) (by decide) (t := .boolean) (t' := .boolean) (by decide) (by decide)))
  have f66 := f52.other W58 (Or.inr (slot_ne (Or.inr (hw _ (List.mem_of_getElem? (i := 46) rfl))) (Or.inr (hw _ (List.mem_of_getElem? (i := 42) rfl))) (by decide) (t := .long) (t' := .boolean) (by decide) (by decide)))
  have f67 := f53.other W58 (Or.inr (slot_ne (Or.inr (hw _ (List.mem_of_getElem? (i := 48) rfl))) (Or.inr (hw _ (List.mem_of_getElem? (i := 42) rfl))) (by decide) (t := .boolean) (t' := .boolean) (by decide) (by decide)))
  have f68 := f54.other W58 (Or.inr (slot_ne (Or.inr (hw _ (List.mem_of_getElem? (i := 50) rfl))) (Or.inr (hw _ (List.mem_of_getElem? (i := 42) rfl))) (by decide) (t := (.array .byte)) (t' := .boolean) (by decide) (by decide)))
  have kp69 := kp55.wr W58 (Or.inl (List.mem_of_getElem? (i := 0) rfl))
  have z70 := Nat.le_trans z56 (Keep.of_wr W58).1
  have N71 := Fr.snoc X58 N57 g_a1
  obtain ⟨T72, h72, X72, e72, W72, st72⟩ := putFN X58 hx hZ hown (hw _ (List.mem_of_getElem? (i := 43) rfl)) Via.refl e58 f65 f59 (Or.inr ⟨(hw _ (List.mem_of_getElem? (i := 44) rfl)), rfl, hnm⟩) (hw _ (List.mem_of_getElem? (i := 27) rfl)) (ty := .boolean) (v' := .int (p7 &&& 1)) (by decide) rfl (fits_nar_bool _) (g := (mkF m 34 #[.val (.ref a1), .val (.ref a2), .val (.ref a3), .val (.ref a4), .val (.int p5), .val (.int p6), .val (.int p7), .val (.long q8), .second, .val (.int p9), .val .null] [(.int p7), (.ref a1)])) rfl rfl (hb hby d6_34)
  have f73 := f59.wr W72
  have f74 := f60.other W72 (Or.inr (slot_ne (Or.inr (hw _ (List.mem_of_getElem? (i := 34) rfl))) (Or.inr (hw _ (List.mem_of_getElem? (i := 44) rfl))) (by decide) (t := (.object "java/lang/String")) (t' := .boolean) (by decide) (by decide)))
  have f75 := f61.other W72 (Or.inr (slot_ne (Or.inr (hw _ (List.mem_of_getElem? (i := 36) rfl))) (Or.inr (hw _ (List.mem_of_getElem? (i := 44) rfl))) (by decide) (t := (.object "java/lang/String")) (t' := .boolean) (by decide) (by decide)))
  have f76 := f62.other W72 (Or.inr (slot_ne (Or.inr (hw _ (List.mem_of_getElem? (i := 38) rfl))) (Or.inr (hw _ (List.mem_of_getElem? (i := 44) rfl))) (by decide) (t := (.object "java/lang/String")) (t' := .boolean) (by decide) (by decide)))
  have f77 := f63.other W72 (Or.inr (slot_ne (Or.inr (hw _ (List.mem_of_getElem? (i := 40) rfl))) (Or.inr (hw _ (List.mem_of_getElem? (i := 44) rfl))) (by decide) (t := .boolean) (t' := .boolean) (by decide) (by decide)))
  have f78 := f64.other W72 (Or.inr (slot_ne (Or.inr (hw _ (List.mem_of_getElem? (i := 42) rfl))) (Or.inr (hw _ (List.mem_of_getElem? (i := 44) rfl))) (by decide) (t := .boolean) (t' := .boolean) (by decide) (by decide)))
  have f79 := f65.same W72
  have f80 := f66.other W72 (Or.inr (slot_ne (Or.inr (hw _ (List.mem_of_getElem? (i := 46) rfl))) (Or.inr (hw _ (List.mem_of_getElem? (i := 44) rfl))) (by decide) (t := .long) (t' := .boolean) (by decide) (by decide)))
  have f81 := f67.other W72 (Or.inr (slot_ne (Or.inr (hw _ (List.mem_of_getElem? (i := 48) rfl))) (Or.inr (hw _ (List.mem_of_getElem? (i := 44) rfl))) (by decide) (t := .boolean) (t' := .boolean) (by decide) (by decide)))
  have f82 := f68.other W72 (Or.inr (slot_ne (Or.inr (hw _ (List.mem_of_getElem? (i := 50) rfl))) (Or.inr (hw _ (List.mem_of_getElem? (i := 44) rfl))) (by decide) (t := (.array .byte)) (t' := .boolean) (by decide) (by decide)))
  have kp83 := kp69.wr W72 (Or.inl (List.mem_of_getElem? (i := 0) rfl))
  have z84 := Nat.le_trans z70 (Keep.of_wr W72).1
  have N85 := Fr.snoc X72 N71 g_a1
  obtain ⟨T86, h86, X86, e86, W86, st86⟩ := putF X72 hx hZ hown (host := "") (Or.inl (hw _ (List.mem_of_getElem? (i := 45) rfl))) Via.refl e72 f80 f73 (Or.inr ⟨(hw _ (List.mem_of_getElem? (i := 46) rfl)), rfl, hnm⟩) (hw _ (List.mem_of_getElem? (i := 27) rfl)) (ty := .long) (by decide) rfl rfl (g := (mkF m 40 #[.val (.ref a1), .val (.ref a2), .val (.ref a3), .val (.ref a4), .val (.int p5), .val (.int p6), .val (.int p7), .val (.long q8), .second, .val (.int p9), .val .null] [(.long q8), (.ref a1)])) rfl rfl (hb hby d6_40)
  have f87 := f73.wr W86
  have f88 := f74.other W86 (Or.inr (slot_ne (Or.inr (hw _ (List.mem_of_getElem? (i := 34) rfl))) (Or.inr (hw _ (List.mem_of_getElem? (i := 46) rfl))) (by decide) (t := (.object "java/lang/String")) (t' := .long) (by decide) (by decide)))
  have f89 := f75.other W86 (Or.inr (slot_ne (Or.inr (hw _ (List.mem_of_getElem? (i := 36) rfl))) (Or.inr (hw _ (List.mem_of_getElem? (i := 46) rfl))) (by decide) (t := (.object "java/lang/String")) (t' := .long) (by decide) (by decide)))
  have f90 := f76.other W86 (Or.inr (slot_ne (Or.inr (hw _ (List.mem_of_getElem? (i := 38) rfl))) (Or.inr (hw _ (List.mem_of_getElem? (i := 46) rfl))) (by decide) (t := (.object "java/lang/String")) (t' := .long) (by decide) (by decide)))
  have f91 := f77.other W86 (Or.inr (slot_ne (Or.inr (hw _ (List.mem_of_getElem? (i := 40) rfl))) (Or.inr (hw _ (List.mem_of_getElem? (i := 46) rfl))) (by decide) (t := .boolean) (t' := .long) (by decide) (by decide)))
  have f92 := f78.other W86 (Or.inr (slot_ne (Or.inr (hw _ (List.mem_of_getElem? (i := 42) rfl))) (Or.inr (hw _ (List.mem_of_getElem? (i := 46) rfl))) (by decide) (t := .boolean) (t' := .long) (by decide) (by decide)))
  have f93 := f79.other W86 (Or.inr (slot_ne (Or.inr (hw _ (List.mem_of_getElem? (i := 44) rfl))) (Or.inr (hw _ (List.mem_of_getElem? (i := 46) rfl))) (by decide) (t := .boolean) (t' := .long) (by decide) (by decide)))
  have f94 := f80.same W86
  have f95 := f81.other W86 (Or.inr (slot_ne (Or.inr (hw _ (List.mem_of_getElem? (i := 48) rfl))) (Or.inr (hw _ (List.mem_of_getElem? (i := 46) rfl))) (by decide) (t := .boolean) (t' := .long) (by decide) (by decide)))
  have f96 := f82.other W86 (Or.inr (slot_ne (Or.inr (hw _ (List.mem_of_getElem? (i := 50) rfl))) (Or.inr (hw _ (List.mem_of_getElem? (i := 46) rfl))) (by decide) (t := (.array .byte)) (t' := .long) (by decide) (by decide)))
  have kp97 := kp83.wr W86 (Or.inl (List.mem_of_getElem? (i := 0) rfl))
  have z98 := Nat.le_trans z84 (Keep.of_wr W86).1
  have N99 := Fr.snoc X86 N85 g_a1
  obtain ⟨T100, h100, X100, e100, W100, st100⟩ := putFN X86 hx hZ hown (hw _ (List.mem_of_getElem? (i := 47) rfl)) Via.refl e86 f95 f87 (Or.inr ⟨(hw _ (List.mem_of_getElem? (i := 48) rfl)), rfl, hnm⟩) (hw _ (List.mem_of_getElem? (i := 27) rfl)) (ty := .boolean) (v' := .int (p9 &&& 1)) (by decide) rfl (fits_nar_bool _) (g := (mkF m 46 #[.val (.ref a1), .val (.ref a2), .val (.ref a3), .val (.ref a4), .val (.int p5), .val (.int p6), .val (.int p7), .val (.long q8), .second, .val (.int p9), .val .null] [(.int p9), (.ref a1)])) rfl rfl (hb hby d6_46)
  have f101 := f87.wr W100
  have f102 := f88.other W100 (Or.inr (slot_ne (Or.inr (hw _ (List.mem_of_getElem? (i := 34) rfl))) (Or.inr (hw _ (List.mem_of_getElem? (i := 48) rfl))) (by decide) (t := (.object "java/lang/String")) (t' := .boolean) (by decide) (by decide)))
  have f103 := f89.other W100 (Or.inr (slot_ne (Or.inr (hw _ (List.mem_of_getElem? (i := 36) rfl))) (Or.inr (hw _ (List.mem_of_getElem? (i := 48) rfl))) (by decide) (t := (.object "java/lang/String")) (t' := .boolean) (by decide) (by decide)))
  have f104 := f90.other W100 (Or.inr (slot_ne (Or.inr (hw _ (List.mem_of_getElem? (i := 38) rfl))) (Or.inr (hw _ (List.mem_of_getElem? (i := 48) rfl))) (by decide) (t := (.object "java/lang/String")) (t' := .boolean) (by decide) (by decide)))
  have f105 := f91.other W100 (Or.inr (slot_ne (Or.inr (hw _ (List.mem_of_getElem? (i := 40) rfl))) (Or.inr (hw _ (List.mem_of_getElem? (i := 48) rfl))) (by decide) (t := .boolean) (t' := .boolean) (by decide) (by decide)))
  have f106 := f92.other W100 (Or.inr (slot_ne (Or.inr (hw _ (List.mem_of_getElem? (i := 42) rfl))) (Or.inr (hw _ (List.mem_of_getElem? (i := 48) rfl))) (by decide) (t := .boolean) (t' := .boolean) (by decide) (by decide)))
  have f107 := f93.other W100 (Or.inr (slot_ne (Or.inr (hw _ (List.mem_of_getElem? (i := 44) rfl))) (Or.inr (hw _ (List.mem_of_getElem? (i := 48) rfl))) (by decide) (t := .boolean) (t' := .boolean) (by decide) (by decide)))
  have f108 := f94.other W100 (Or.inr (slot_ne (Or.inr (hw _ (List.mem_of_getElem? (i := 46) rfl))) (Or.inr (hw _ (List.mem_of_getElem? (i := 48) rfl))) (by decide) (t := .long) (t' := .boolean) (by decide) (by decide)))
  have f109 := f95.same W100
  have f110 := f96.other W100 (Or.inr (slot_ne (Or.inr (hw _ (List.mem_of_getElem? (i := 50) rfl))) (Or.inr (hw _ (List.mem_of_getElem? (i := 48) rfl))) (by decide) (t := (.array .byte)) (t' := .boolean) (by decide) (by decide)))
  have kp111 := kp97.wr W100 (Or.inl (List.mem_of_getElem? (i := 0) rfl))
  have z112 := Nat.le_trans z98 (Keep.of_wr W100).1
  have N113 := Fr.snoc X100 N99 g_a1
  obtain ⟨T114, h114, X114, e114, W114, st114⟩ := putF X100 hx hZ hown (host := "") (Or.inl (hw _ (List.mem_of_getElem? (i := 49) rfl))) Via.refl e100 f110 f101 (Or.inr ⟨(hw _ (List.mem_of_getElem? (i := 50) rfl)), rfl, hnm⟩) (hw _ (List.mem_of_getElem? (i := 27) rfl)) (ty := (.array .byte)) (by decide) rfl rfl (g := (mkF m 52 #[.val (.ref a1), .val (.ref a2), .val (.ref a3), .val (.ref a4), .val (.int p5), .val (.int p6), .val (.int p7), .val (.long q8), .second, .val (.int p9), .val .null] [.null, (.ref a1)])) rfl rfl (hb hby d6_52)
  have f115 := f101.wr W114
  have f116 := f102.other W114 (Or.inr (slot_ne (Or.inr (hw _ (List.mem_of_getElem? (i := 34) rfl))) (Or.inr (hw _ (List.mem_of_getElem? (i := 50) rfl))) (by decide) (t := (.object "java/lang/String")) (t' := (.array .byte)) (by decide) (by decide)))
  have f117 := f103.other W114 (Or.inr (slot_ne (Or.inr (hw _ (List.mem_of_getElem? (i := 36) rfl))) (Or.inr (hw _ (List.mem_of_getElem? (i := 50) rfl))) (by decide) (t := (.object "java/lang/String")) (t' := (.array .byte)) (by decide) (by decide)))
  have f118 := f104.other W114 (Or.inr (slot_ne (Or.inr (hw _ (List.mem_of_getElem? (i := 38) rfl))) (Or.inr (hw _ (List.mem_of_getElem? (i := 50) rfl))) (by decide) (t := (.object "java/lang/String")) (t' := (.array .byte)) (by decide) (by decide)))
  have f119 := f105.other W114 (Or.inr (slot_ne (Or.inr (hw _ (List.mem_of_getElem? (i := 40) rfl))) (Or.inr (hw _ (List.mem_of_getElem? (i := 50) rfl))) (by decide) (t := .boolean) (t' := (.array .byte)) (by decide) (by decide)))
  have f120 := f106.other W114 (Or.inr (slot_ne (Or.inr (hw _ (List.mem_of_getElem? (i := 42) rfl))) (Or.inr (hw _ (List.mem_of_getElem? (i := 50) rfl))) (by decide) (t := .boolean) (t' := (.array .byte)) (by decide) (by decide)))
  have f121 := f107.other W114 (Or.inr (slot_ne (Or.inr (hw _ (List.mem_of_getElem? (i := 44) rfl))) (Or.inr (hw _ (List.mem_of_getElem? (i := 50) rfl))) (by decide) (t := .boolean) (t' := (.array .byte)) (by decide) (by decide)))
  have f122 := f108.other W114 (Or.inr (slot_ne (Or.inr (hw _ (List.mem_of_getElem? (i := 46) rfl))) (Or.inr (hw _ (List.mem_of_getElem? (i := 50) rfl))) (by decide) (t := .long) (t' := (.array .byte)) (by decide) (by decide)))
  have f123 := f109.other W114 (Or.inr (slot_ne (Or.inr (hw _ (List.mem_of_getElem? (i := 48) rfl))) (Or.inr (hw _ (List.mem_of_getElem? (i := 50) rfl))) (by decide) (t := .boolean) (t' := (.array .byte)) (by decide) (by decide)))
  have f124 := f110.same W114
  have kp125 := kp111.wr W114 (Or.inl (List.mem_of_getElem? (i := 0) rfl))
  have z126 := Nat.le_trans z112 (Keep.of_wr W114).1
  have N127 := Fr.snoc X114 N113 g_a1
  obtain ⟨fs, hr, hrun, hended, hW, hsame⟩ := X114.leave (v := none) (fun _ => rfl)
  refine ⟨_, _, pre0 _ ?_, hrun, hended, _, _, rfl, ?_, ⟨_, rfl⟩, hW, hsame.mono (by decide) (by decide)⟩
  · show Steps p.tables e below (s₁.setTop (mkF m 0 #[.val (.ref a1), .val (.ref a2), .val (.ref a3), .val (.ref a4), .val (.int p5), .val (.int p6), .val (.int p7), .val (.long q8), .second, .val (.int p9), .val .null] [])) _
    refine XS.aloadN X0.here hx rfl (hb hby d6_0) rfl rfl ?_
    show Steps p.tables e below (s₁.setTop (mkF m 1 #[.val (.ref a1), .val (.ref a2), .val (.ref a3), .val (.ref a4), .val (.int p5), .val (.int p6), .val (.int p7), .val (.long q8), .second, .val (.int p9), .val .null] [(.ref a1)])) _
    refine st1 _ ?_
    show Steps p.tables e below (T1.setTop (mkF m 4 #[.val (.ref a1), .val (.ref a2), .val (.ref a3), .val (.ref a4), .val (.int p5), .val (.int p6), .val (.int p7), .val (.long q8), .second, .val (.int p9), .val .null] [])) _
    refine XS.aloadN X1.here hx rfl (hb hby d6_4) rfl rfl ?_
    show Steps p.tables e below (T1.setTop (mkF m 5 #[.val (.ref a1), .val (.ref a2), .val (.ref a3), .val (.ref a4), .val (.int p5), .val (.int p6), .val (.int p7), .val (.long q8), .second, .val (.int p9), .val .null] [(.ref a1)])) _
    refine XS.aloadN X1.here hx rfl (hb hby d6_5) rfl rfl ?_
    show Steps p.tables e below (T1.setTop (mkF m 6 #[.val (.ref a1), .val (.ref a2), .val (.ref a3), .val (.ref a4), .val (.int p5), .val (.int p6), .val (.int p7), .val (.long q8), .second, .val (.int p9), .val .null] [(.ref a2), (.ref a1)])) _
    refine st2 _ ?_
    show Steps p.tables e below (T2.setTop (mkF m 9 #[.val (.ref a1), .val (.ref a2), .val (.ref a3), .val (.ref a4), .val (.int p5), .val (.int p6), .val (.int p7), .val (.long q8), .second, .val (.int p9), .val .null] [])) _
    refine XS.aloadN X2.here hx rfl (hb hby d6_9) rfl rfl ?_
    show Steps p.tables e below (T2.setTop (mkF m 10 #[.val (.ref a1), .val (.ref a2), .val (.ref a3), .val (.ref a4), .val (.int p5), .val (.int p6), .val (.int p7), .val (.long q8), .second, .val (.int p9), .val .null] [(.ref a1)])) _
    refine XS.aloadN X2.here hx rfl (hb hby d6_10) rfl rfl ?_
    show Steps p.tables e below (T2.setTop (mkF m 11 #[.val (.ref a1), .val (.ref a2), .val (.ref a3), .val (.ref a4), .val (.int p5), .val (.int p6), .val (.int p7), .val (.long q8), .second, .val (.int p9), .val .null] [(.ref a3), (.ref a1)])) _
    refine st16 _ ?_
    show Steps p.tables e below (T16.setTop (mkF m 14 #[.val (.ref a1), .val (.ref a2), .val (.ref a3), .val (.ref a4), .val (.int p5), .val (.int p6), .val (.int p7), .val (.long q8), .second, .val (.int p9), .val .null] [])) _
    refine XS.aloadN X16.here hx rfl (hb hby d6_14) rfl rfl ?_
    show Steps p.tables e below (T16.setTop (mkF m 15 #[.val (.ref a1), .val (.ref a2), .val (.ref a3), .val (.ref a4), .val (.int p5), .val (.int p6), .val (.int p7), .val (.long q8), .second, .val (.int p9), .val .null] [(.ref a1)])) _
    refine XS.aloadN X16.here hx rfl (hb hby d6_15) rfl rfl ?_
    show Steps p.tables e below (T16.setTop (mkF m 16 #[.val (.ref a1), .val (.ref a2), .val (.ref a3), .val (.ref a4), .val (.int p5), .val (.int p6), .val (.int p7), .val (.long q8), .second, .val (.int p9), .val .null] [(.ref a4), (.ref a1)])) _
    refine st30 _ ?_
    show Steps p.tables e below (T30.setTop (mkF m 19 #[.val (.ref a1), .val (.ref a2), .val (.ref a3), .val (.ref a4), .val (.int p5), .val (.int p6), .val (.int p7), .val (.long q8), .second, .val (.int p9), .val .null] [])) _
    refine XS.aloadN X30.here hx rfl (hb hby d6_19) rfl rfl ?_
    show Steps p.tables e below (T30.setTop (mkF m 20 #[.val (.ref a1), .val (.ref a2), .val (.ref a3), .val (.ref a4), .val (.int p5), .val (.int p6), .val (.int p7), .val (.long q8), .second, .val (.int p9), .val .null] [(.ref a1)])) _
    refine XS.iload X30.here hx rfl (hb hby d6_20) rfl ?_
    show Steps p.tables e below (T30.setTop (mkF m 22 #[.val (.ref a1), .val (.ref a2), .val (.ref a3), .val (.ref a4), .val (.int p5), .val (.int p6), .val (.int p7), .val (.long q8), .second, .val (.int p9), .val .null] [(.int p5), (.ref a1)])) _
    refine st44 _ ?_
    show Steps p.tables e below (T44.setTop (mkF m 25 #[.val (.ref a1), .val (.ref a2), .val (.ref a3), .val (.ref a4), .val (.int p5), .val (.int p6), .val (.int p7), .val (.long q8), .second, .val (.int p9), .val .null] [])) _
    refine XS.aloadN X44.here hx rfl (hb hby d6_25) rfl rfl ?_
    show Steps p.tables e below (T44.setTop (mkF m 26 #[.val (.ref a1), .val (.ref a2), .val (.ref a3), .val (.ref a4), .val (.int p5), .val (.int p6), .val (.int p7), .val (.long q8), .second, .val (.int p9), .val .null] [(.ref a1)])) _
    refine XS.iload X44.here hx rfl (hb hby d6_26) rfl ?_
    show Steps p.tables e below (T44.setTop (mkF m 28 #[.val (.ref a1), .val (.ref a2), .val (.ref a3), .val (.ref a4), .val (.int p5), .val (.int p6), .val (.int p7), .val (.long q8), .second, .val (.int p9), .val .null] [(.int p6), (.ref a1)])) _
    refine st58 _ ?_
    show Steps p.tables e below (T58.setTop (mkF m 31 #[.val (.ref a1), .val (.ref a2), .val (.ref a3), .val (.ref a4), .val (.int p5), .val (.int p6), .val (.int p7), .val (.long q8), .second, .val (.int p9), .val .null] [])) _
    refine XS.aloadN X58.here hx rfl (hb hby d6_31) rfl rfl ?_
    show Steps p.tables e below (T58.setTop (mkF m 32 #[.val (.ref a1), .val (.ref a2), .val (.ref a3), .val (.ref a4), .val (.int p5), .val (.int p6), .val (.int p7), .val (.long q8), .second, .val (.int p9), .val .null] [(.ref a1)])) _
    refine XS.iload X58.here hx rfl (hb hby d6_32) rfl ?_
    show Steps p.tables e below (T58.setTop (mkF m 34 #[.val (.ref a1), .val (.ref a2), .val (.ref a3), .val (.ref a4), .val (.int p5), .val (.int p6), .val (.int p7), .val (.long q8), .second, .val (.int p9), .val .null] [(.int p7), (.ref a1)])) _
    refine st72 _ ?_
    show Steps p.tables e below (T72.setTop (mkF m 37 #[.val (.ref a1), .val (.ref a2), .val (.ref a3), .val (.ref a4), .val (.int p5), .val (.int p6), .val (.int p7), .val (.long q8), .second, .val (.int p9), .val .null] [])) _
    refine XS.aloadN X72.here hx rfl (hb hby d6_37) rfl rfl ?_
    show Steps p.tables e below (T72.setTop (mkF m 38 #[.val (.ref a1), .val (.ref a2), .val (.ref a3), .val (.ref a4), .val (.int p5), .val (.int p6), .val (.int p7), .val (.long q8), .second, .val (.int p9), .val .null] [(.ref a1)])) _
    refine XS.lload X72.here hx rfl (hb hby d6_38) rfl ?_
    show Steps p.tables e below (T72.setTop (mkF m 40 #[.val (.ref a1), .val (.ref a2), .val (.ref a3), .val (.ref a4), .val (.int p5), .val (.int p6), .val (.int p7), .val (.long q8), .second, .val (.int p9), .val .null] [(.long q8), (.ref a1)])) _
    refine st86 _ ?_
    show Steps p.tables e below (T86.setTop (mkF m 43 #[.val (.ref a1), .val (.ref a2), .val (.ref a3), .val (.ref a4), .val (.int p5), .val (.int p6), .val (.int p7), .val (.long q8), .second, .val (.int p9), .val .null] [])) _
    refine XS.aloadN X86.here hx rfl (hb hby d6_43) rfl rfl ?_
    show Steps p.tables e below (T86.setTop (mkF m 44 #[.val (.ref a1), .val (.ref a2), .val (.ref a3), .val (.ref a4), .val (.int p5), .val (.int p6), .val (.int p7), .val (.long q8), .second, .val (.int p9), .val .null] [(.ref a1)])) _
    refine XS.iload X86.here hx rfl (hb hby d6_44) rfl ?_
    show Steps p.tables e below (T86.setTop (mkF m 46 #[.val (.ref a1), .val (.ref a2), .val (.ref a3), .val (.ref a4), .val (.int p5), .val (.int p6), .val (.int p7), .val (.long q8), .second, .val (.int p9), .val .null] [(.int p9), (.ref a1)])) _
    refine st100 _ ?_
    show Steps p.tables e below (T100.setTop (mkF m 49 #[.val (.ref a1), .val (.ref a2), .val (.ref a3), .val (.ref a4), .val (.int p5), .val (.int p6), .val (.int p7), .val (.long q8), .second, .val (.int p9), .val .null] [])) _
    refine XS.aloadN X100.here hx rfl (hb hby d6_49) rfl rfl ?_
    show Steps p.tables e below (T100.setTop (mkF m 50 #[.val (.ref a1), .val (.ref a2), .val (.ref a3), .val (.ref a4), .val (.int p5), .val (.int p6), .val (.int p7), .val (.long q8), .second, .val (.int p9), .val .null] [(.ref a1)])) _
    refine XS.aload X100.here hx rfl (hb hby d6_50) rfl rfl ?_
    show Steps p.tables e below (T100.setTop (mkF m 52 #[.val (.ref a1), .val (.ref a2), .val (.ref a3), .val (.ref a4), .val (.int p5), .val (.int p6), .val (.int p7), .val (.long q8), .second, .val (.int p9), .val .null] [.null, (.ref a1)])) _
    refine st114 _ ?_
    show Steps p.tables e below (T114.setTop (mkF m 55 #[.val (.ref a1), .val (.ref a2), .val (.ref a3), .val (.ref a4), .val (.int p5), .val (.int p6), .val (.int p7), .val (.long q8), .second, .val (.int p9), .val .null] [])) _
    exact X114.returnOut hx Bd.returns (hb hby d6_55) hr
  · show own_QR Z a1 p5 p6 h0 n0 _ T114.heap _
    rw [e114]
    exact ⟨rfl, N127, kp125, f115, f119, f120⟩
theorem ef_6 (m : MethodId) (x0 : Addr) (x1 : Addr) (x2 : Addr) (x3 : Addr) (x4 : Int32) (x5 : Int32) (x6 : Int32) (x7 : Int64) (x8 : Int32) (x9 : Addr) : entryFrame m #[(.ref x0), (.ref x1), (.ref x2), (.ref x3), (.int x4), (.int x5), (.int x6), (.long x7), (.int x8), (.ref x9)] 11 = mkF m 0 #[.val (.ref x0), .val (.ref x1), .val (.ref x2), .val (.ref x3), .val (.int x4), .val (.int x5), .val (.int x6), .val (.long x7), .second, .val (.int x8), .val (.ref x9)] [] := by first | (simp [entryFrame, mkF, argsToLocals, Value.category]; done) | rfl
set_option maxRecDepth 65536 in
set_option maxHeartbeats 40000000 in
theorem rm6qb (l : Launch) (Z : State) (a0 : Array Value) (hw : ∀ d ∈ tables_1, d.before a0 Z = true) (ws : List Jvm.Cond) (a1 a2 a3 a4 : Addr) (p5 p6 p7 : Int32) (q8 : Int64) (p9 : Int32) (a10 : Addr) (h0 : Heap) (n0 : Nat) (Z0 : n0 ≤ h0.size) (E_a1 : Exa Z h0 a1 "com/example/hatchd/hatchd/server/RequestReader$Request") (F_method : Fld Z h0 a1 "com/example/hatchd/hatchd/server/RequestReader$Request" "method" "Ljava/lang/String;" .null) (F_path : Fld Z h0 a1 "com/example/hatchd/hatchd/server/RequestReader$Request" "path" "Ljava/lang/String;" .null) (F_query : Fld Z h0 a1 "com/example/hatchd/hatchd/server/RequestReader$Request" "query" "Ljava/lang/String;" .null) (F_http10 : Fld Z h0 a1 "com/example/hatchd/hatchd/server/RequestReader$Request" "http10" "Z" (.int (0 : Int32))) (F_close : Fld Z h0 a1 "com/example/hatchd/hatchd/server/RequestReader$Request" "close" "Z" (.int (0 : Int32))) (F_chunked : Fld Z h0 a1 "com/example/hatchd/hatchd/server/RequestReader$Request" "chunked" "Z" (.int (0 : Int32))) (F_contentLength : Fld Z h0 a1 "com/example/hatchd/hatchd/server/RequestReader$Request" "contentLength" "J" (.long (0 : Int64))) (F_expectsContinue : Fld Z h0 a1 "com/example/hatchd/hatchd/server/RequestReader$Request" "expectsContinue" "Z" (.int (0 : Int32))) (F_body : Fld Z h0 a1 "com/example/hatchd/hatchd/server/RequestReader$Request" "body" "[B" .null) (g_a1 : n0 ≤ a1) :
    MetFree l (⟨"com/example/hatchd/hatchd/server/RequestReader$Request", "<init>", "(Ljava/lang/String;Ljava/lang/String;Ljava/lang/String;ZZZJZ[B)V"⟩ : MethodName) (head1 (Jvm.Cond.code (⟨"com/example/hatchd/hatchd/server/RequestReader$Request", "<init>", "(Ljava/lang/String;Ljava/lang/String;Ljava/lang/String;ZZZJZ[B)V"⟩ : MethodName) prog_41_method_1_code 11 none :: ws) ({ frames := 1, cells := 0, slots := 0, locals := 12 } : Room)) (fun a U => a = #[(.ref a1), (.ref a2), (.ref a3), (.ref a4), (.int p5), (.int p6), (.int p7), (.long q8), (.int p9), (.ref a10)] ∧ Z.Warmed39 U.vm ∧ U.heap = h0) (fun _ _ _ _ _ => True) (fun _ U o U' => ∃ v L, o = .returned v ∧ own_QR Z a1 p5 p6 h0 n0 v U'.heap L ∧ FrameEnd U o U' L ({ frames := 1, cells := 0, slots := 0, locals := 12 } : Room).cells ({ frames := 1, cells := 0, slots := 0, locals := 12 } : Room).slots) := by
  refine MetFree.of_bodySF (plainFor_of_name pn_6) hisR ?_
  intro p e s m args below meth c s₁ Bd hml0 hP hK
  obtain ⟨rfl, hZ, hh⟩ := hP
  have hx := Bd.exec
  have hby := Bd.bytes
  have hml : c.maxLocals = 11 := hml0
  have hown : s.vm.findClass "com/example/hatchd/hatchd/server/RequestReader$Request" = some m.cls := findClass_of_methodNamed Bd.named
  have hnm := (name_of_methodNamed Bd.named Bd.method).1
  have X0 : Stand p l e ({ frames := 1, cells := 0, slots := 0, locals := 12 } : Room) s m #[(.ref a1), (.ref a2), (.ref a3), (.ref a4), (.int p5), (.int p6), (.int p7), (.long q8), (.int p9), (.ref a10)] below meth c s₁ [] 0 0 := Stand.of_body Bd
  have e0 : s₁.heap = h0 := by rw [← hh, Bd.state]; rfl
  have N0 := Fr.nil n0
  have pre0 : ∀ tq, Steps p.tables e below (s₁.setTop (mkF m 0 #[.val (.ref a1), .val (.ref a2), .val (.ref a3), .val (.ref a4), .val (.int p5), .val (.int p6), .val (.int p7), .val (.long q8), .second, .val (.int p9), .val (.ref a10)] [])) tq → Steps p.tables e below (s₁.setTop (entryFrame m #[(.ref a1), (.ref a2), (.ref a3), (.ref a4), (.int p5), (.int p6), (.int p7), (.long q8), (.int p9), (.ref a10)] 11)) tq := fun tq k => castTop (ef_6 m a1 a2 a3 a4 p5 p6 p7 q8 p9 a10) k
  obtain ⟨T1, X1, e1, st1⟩ := initO X0 hx hZ hown (hw _ (List.mem_of_getElem? (i := 32) rfl)) (hw _ (List.mem_of_getElem? (i := 20) rfl)) (hw _ (List.mem_of_getElem? (i := 21) rfl)) e0 (g := (mkF m 1 #[.val (.ref a1), .val (.ref a2), .val (.ref a3), .val (.ref a4), .val (.int p5), .val (.int p6), .val (.int p7), .val (.long q8), .second, .val (.int p9), .val (.ref a10)] [(.ref a1)])) rfl (by rw [hml]; rfl) rfl (hb hby d6_1) (by decide) (W := 0) (by show 2 * 0 + _ ≤ _; exact Nat.le_of_eq rfl) (by decide)
  obtain ⟨T2, h2, X2, e2, W2, st2⟩ := putF X1 hx hZ hown (host := "") (Or.inl (hw _ (List.mem_of_getElem? (i := 33) rfl))) Via.refl e1 F_method E_a1 (Or.inr ⟨(hw _ (List.mem_of_getElem? (i := 34) rfl)), rfl, hnm⟩) (hw _ (List.mem_of_getElem? (i := 27) rfl)) (ty := (.object "java/lang/String")) (by decide) rfl rfl (g := (mkF m 6 #[.val (.ref a1), .val (.ref a2), .val (.ref a3), .val (.ref a4), .val (.int p5), .val (.int p6), .val (.int p7), .val (.long q8), .second, .val (.int p9), .val (.ref a10)] [(.ref a2), (.ref a1)])) rfl rfl (hb hby d6_6)
  have f3 := E_a1.wr W2
  have f4 := F_method.same W2
  have f5 := F_path.other W2 (Or.inr (slot_ne (Or.inr (hw _ (List.mem_of_getElem? (i := 36) rfl))) (Or.inr (hw _ (List.mem_of_getElem? (i := 34) rfl))) (by decide) (t := (.object "java/lang/String")) (t' := (.object "java/lang/String")) (by decide) (by decide)))
  have f6 := F_query.other W2 (Or.inr (slot_ne (Or.inr (hw _ (List.mem_of_getElem? (i := 38) rfl))) (Or.inr (hw _ (List.mem_of_getElem? (i := 34) rfl))) (by decide) (t := (.object "java/lang/String")) (t' := (.object "java/lang/String")) (by decide) (by decide)))
  have f7 := F_http10.other W2 (Or.inr (slot_ne (Or.inr (hw _ (List.mem_of_getElem? (i := 40) rfl))) (Or.inr (hw _ (List.mem_of_getElem? (i := 34) rfl))) (by decide) (t := .boolean) (t' := (.object "java/lang/String")) (by decide) (by decide)))
  have f8 := F_close.other W2 (Or.inr (slot_ne (Or.inr (hw _ (List.mem_of_getElem? (i := 42) rfl))) (Or.inr (hw _ (List.mem_of_getElem? (i := 34) rfl))) (by decide) (t := .boolean) (t' := (.object "java/lang/String")) (by decide) (by decide)))
  have f9 := F_chunked.other W2 (Or.inr (slot_ne (Or.inr (hw _ (List.mem_of_getElem? (i := 44) rfl))) (Or.inr (hw _ (List.mem_of_getElem? (i := 34) rfl))) (by decide) (t := .boolean) (t' := (.object "java/lang/String")) (by decide) (by decide)))
  have f10 := F_contentLength.other W2 (Or.inr (slot_ne (Or.inr (hw _ (List.mem_of_getElem? (i := 46) rfl))) (Or.inr (hw _ (List.mem_of_getElem? (i := 34) rfl))) (by decide) (t := .long) (t' := (.object "java/lang/String")) (by decide) (by decide)))
  have f11 := F_expectsContinue.other W2 (Or.inr (slot_ne (Or.inr (hw _ (List.mem_of_getElem? (i := 48) rfl))) (Or.inr (hw _ (List.mem_of_getElem? (i := 34) rfl))) (by decide) (t := .boolean) (t' := (.object "java/lang/String")) (by decide) (by decide)))
  have f12 := F_body.other W2 (Or.inr (slot_ne (Or.inr (hw _ (List.mem_of_getElem? (i := 50) rfl))) (Or.inr (hw _ (List.mem_of_getElem? (i := 34) rfl))) (by decide) (t := (.array .byte)) (t' := (.object "java/lang/String")) (by decide) (by decide)))
  have kp13 := (Keep.refl h0 [a1]).wr W2 (Or.inl (List.mem_of_getElem? (i := 0) rfl))
  have z14 := Nat.le_trans Z0 (Keep.of_wr W2).1
  have N15 := Fr.snoc X2 N0 g_a1
  obtain ⟨T16, h16, X16, e16, W16, st16⟩ := putF X2 hx hZ hown (host := "") (Or.inl (hw _ (List.mem_of_getElem? (i := 35) rfl))) Via.refl e2 f5 f3 (Or.inr ⟨(hw _ (List.mem_of_getElem? (i := 36) rfl)), rfl, hnm⟩) (hw _ (List.mem_of_getElem? (i := 27) rfl)) (ty := (.object "java/lang/String")) (by decide) rfl rfl (g := (mkF m 11 #[.val (.ref a1), .val (.ref a2), .val (.ref a3), .val (.ref a4), .val (.int p5), .val (.int p6), .val (.int p7), .val (.long q8), .second, .val (.int p9), .val (.ref a10)] [(.ref a3), (.ref a1)])) rfl rfl (hb hby d6_11)
  have f17 := f3.wr W16
  have f18 := f4.other W16 (Or.inr (slot_ne (Or.inr (hw _ (List.mem_of_getElem? (i := 34) rfl))) (Or.inr (hw _ (List.mem_of_getElem? (i := 36) rfl))) (by decide) (t := (.object "java/lang/String")) (t' := (.object "java/lang/String")) (by decide) (by decide)))
  have f19 := f5.same W16
  have f20 := f6.other W16 (Or.inr (slot_ne (Or.inr (hw _ (List.mem_of_getElem? (i := 38) rfl))) (Or.inr (hw _ (List.mem_of_getElem? (i := 36) rfl))) (by decide) (t := (.object "java/lang/String")) (t' := (.object "java/lang/String")) (by decide) (by decide)))
  have f21 := f7.other W16 (Or.inr (slot_ne (Or.inr (hw _ (List.mem_of_getElem? (i := 40) rfl))) (Or.inr (hw _ (List.mem_of_getElem? (i := 36) rfl))) (by decide) (t := .boolean) (t' := (.object "java/lang/String")) (by decide) (by decide)))
  have f22 := f8.other W16 (Or.inr (slot_ne (Or.inr (hw _ (List.mem_of_getElem? (i := 42) rfl))) (Or.inr (hw _ (List.mem_of_getElem? (i := 36) rfl))) (by decide) (t := .boolean) (t' := (.object "java/lang/String")) (by decide) (by decide)))
  have f23 := f9.other W16 (Or.inr (slot_ne (Or.inr (hw _ (List.mem_of_getElem? (i := 44) rfl))) (Or.inr (hw _ (List.mem_of_getElem? (i := 36) rfl))) (by decide) (t := .boolean) (t' := (.object "java/lang/String")) (by decide) (by decide)))
  have f24 := f10.other W16 (Or.inr (slot_ne (Or.inr (hw _ (List.mem_of_getElem? (i := 46) rfl))) (Or.inr (hw _ (List.mem_of_getElem? (i := 36) rfl))) (by decide) (t := .long) (t' := (.object "java/lang/String")) (by decide) (by decide)))
  have f25 := f11.other W16 (Or.inr (slot_ne (Or.inr (hw _ (List.mem_of_getElem? (i := 48) rfl))) (Or.inr (hw _ (List.mem_of_getElem? (i := 36) rfl))) (by decide) (t := .boolean) (t' := (.object "java/lang/String")) (by decide) (by decide)))
  have f26 := f12.other W16 (Or.inr (slot_ne (Or.inr (hw _ (List.mem_of_getElem? (i := 50) rfl))) (Or.inr (hw _ (List.mem_of_getElem? (i := 36) rfl))) (by decide) (t := (.array .byte)) (t' := (.object "java/lang/String")) (by decide) (by decide)))
  have kp27 := kp13.wr W16 (Or.inl (List.mem_of_getElem? (i := 0) rfl))
  have z28 := Nat.le_trans z14 (Keep.of_wr W16).1
  have N29 := Fr.snoc X16 N15 g_a1
  obtain ⟨T30, h30, X30, e30, W30, st30⟩ := putF X16 hx hZ hown (host := "") (Or.inl (hw _ (List.mem_of_getElem? (i := 37) rfl))) Via.refl e16 f20 f17 (Or.inr ⟨(hw _ (List.mem_of_getElem? (i := 38) rfl)), rfl, hnm⟩) (hw _ (List.mem_of_getElem? (i := 27) rfl)) (ty := (.object "java/lang/String")) (by decide) rfl rfl (g := (mkF m 16 #[.val (.ref a1), .val (.ref a2), .val (.ref a3), .val (.ref a4), .val (.int p5), .val (.int p6), .val (.int p7), .val (.long q8), .second, .val (.int p9), .val (.ref a10)] [(.ref a4), (.ref a1)])) rfl rfl (hb hby d6_16)
  have f31 := f17.wr W30
  have f32 := f18.other W30 (Or.inr (slot_ne (Or.inr (hw _ (List.mem_of_getElem? (i := 34) rfl))) (Or.inr (hw _ (List.mem_of_getElem? (i := 38) rfl))) (by decide) (t := (.object "java/lang/String")) (t' := (.object "java/lang/String")) (by decide) (by decide)))
  have f33 := f19.other W30 (Or.inr (slot_ne (Or.inr (hw _ (List.mem_of_getElem? (i := 36) rfl))) (Or.inr (hw _ (List.mem_of_getElem? (i := 38) rfl))) (by decide) (t := (.object "java/lang/String")) (t' := (.object "java/lang/String")) (by decide) (by decide)))
  have f34 := f20.same W30
  have f35 := f21.other W30 (Or.inr (slot_ne (Or.inr (hw _ (List.mem_of_getElem? (i := 40) rfl))) (Or.inr (hw _ (List.mem_of_getElem? (i := 38) rfl))) (by decide) (t := .boolean) (t' := (.object "java/lang/String")) (by decide) (by decide)))
  have f36 := f22.other W30 (Or.inr (slot_ne (Or.inr (hw _ (List.mem_of_getElem? (i := 42) rfl))) (Or.inr (hw _ (List.mem_of_getElem? (i := 38) rfl))) (by decide) (t := .boolean) (t' := (.object "java/lang/String")) (by decide) (by decide)))
  have f37 := f23.other W30 (Or.inr (slot_ne (Or.inr (hw _ (List.mem_of_getElem? (i := 44) rfl))) (Or.inr (hw _ (List.mem_of_getElem? (i := 38) rfl))) (by decide) (t := .boolean) (t' := (.object "java/lang/String")) (by decide) (by decide)))
  have f38 := f24.other W30 (Or.inr (slot_ne (Or.inr (hw _ (List.mem_of_getElem? (i := 46) rfl))) (Or.inr (hw _ (List.mem_of_getElem? (i := 38) rfl))) (by decide) (t := .long) (t' := (.object "java/lang/String")) (by decide) (by decide)))
  have f39 := f25.other W30 (Or.inr (slot_ne (Or.inr (hw _ (List.mem_of_getElem? (i := 48) rfl))) (Or.inr (hw _ (List.mem_of_getElem? (i := 38) rfl))) (by decide) (t := .boolean) (t' := (.object "java/lang/String")) (by decide) (by decide)))
  have f40 := f26.other W30 (Or.inr (slot_ne (Or.inr (hw _ (List.mem_of_getElem? (i := 50) rfl))) (Or.inr (hw _ (List.mem_of_getElem? (i := 38) rfl))) (by decide) (t := (.array .byte)) (t' := (.object "java/lang/String")) (by decide) (by decide)))
  have kp41 := kp27.wr W30 (Or.inl (List.mem_of_getElem? (i := 0) rfl))
  have z42 := Nat.le_trans z28 (Keep.of_wr W30).1
  have N43 := Fr.snoc X30 N29 g_a1
  obtain ⟨T44, h44, X44, e44, W44, st44⟩ := putFN X30 hx hZ hown (hw _ (List.mem_of_getElem? (i := 39) rfl)) Via.refl e30 f35 f31 (Or.inr ⟨(hw _ (List.mem_of_getElem? (i := 40) rfl)), rfl, hnm⟩) (hw _ (List.mem_of_getElem? (i := 27) rfl)) (ty := .boolean) (v' := .int (p5 &&& 1)) (by decide) rfl (fits_nar_bool _) (g := (mkF m 22 #[.val (.ref a1), .val (.ref a2), .val (.ref a3), .val (.ref a4), .val (.int p5), .val (.int p6), .val (.int p7), .val (.long q8), .second, .val (.int p9), .val (.ref a10)] [(.int p5), (.ref a1)])) rfl rfl (hb hby d6_22)
  have f45 := f31.wr W44
  have f46 := f32.other W44 (Or.inr (slot_ne (Or.inr (hw _ (List.mem_of_getElem? (i := 34) rfl))) (Or.inr (hw _ (List.mem_of_getElem? (i := 40) rfl))) (by decide) (t := (.object "java/lang/String")) (t' := .boolean) (by decide) (by decide)))
  have f47 := f33.other W44 (Or.inr (slot_ne (Or.inr (hw _ (List.mem_of_getElem? (i := 36) rfl))) (Or.inr (hw _ (List.mem_of_getElem? (i := 40) rfl))) (by decide) (t := (.object "java/lang/String")) (t' := .boolean) (by decide) (by decide)))
  have f48 := f34.other W44 (Or.inr (slot_ne (Or.inr (hw _ (List.mem_of_getElem? (i := 38) rfl))) (Or.inr (hw _ (List.mem_of_getElem? (i := 40) rfl))) (by decide) (t := (.object "java/lang/String")) (t' := .boolean) (by decide) (by decide)))
  have f49 := f35.same W44
  have f50 := f36.other W44 (Or.inr (slot_ne (Or.inr (hw _ (List.mem_of_getElem? (i := 42) rfl))) (Or.inr (hw _ (List.mem_of_getElem? (i := 40) rfl))) (by decide) (t := .boolean) (t' := .boolean) (by decide) (by decide)))
  have f51 := f37.other W44 (Or.inr (slot_ne (Or.inr (hw _ (List.mem_of_getElem? (i := 44) rfl))) (Or.inr (hw _ (List.mem_of_getElem? (i := 40) rfl))) (by decide) (t := .boolean) (t' := .boolean) (by decide) (by decide)))
  have f52 := f38.other W44 (Or.inr (slot_ne (Or.inr (hw _ (List.mem_of_getElem? (i := 46) rfl))) (Or.inr (hw _ (List.mem_of_getElem? (i := 40) rfl))) (by decide) (t := .long) (t' := .boolean) (by decide) (by decide)))
  have f53 := f39.other W44 (Or.inr (slot_ne (Or.inr (hw _ (List.mem_of_getElem? (i := 48) rfl))) (Or.inr (hw _ (List.mem_of_getElem? (i := 40) rfl))) (by decide) (t := .boolean) (t' := .boolean) (by decide) (by decide)))
  have f54 := f40.other W44 (Or.inr (slot_ne (Or.inr (hw _ (List.mem_of_getElem? (i := 50) rfl))) (Or.inr (hw _ (List.mem_of_getElem? (i := 40) rfl))) (by decide) (t := (.array .byte)) (t' := .boolean) (by decide) (by decide)))
  have kp55 := kp41.wr W44 (Or.inl (List.mem_of_getElem? (i := 0) rfl))
  have z56 := Nat.le_trans z42 (Keep.of_wr W44).1
  have N57 := Fr.snoc X44 N43 g_a1
  obtain ⟨T58, h58, X58, e58, W58, st58⟩ := putFN X44 hx hZ hown (hw _ (List.mem_of_getElem? (i := 41) rfl)) Via.refl e44 f50 f45 (Or.inr ⟨(hw _ (List.mem_of_getElem? (i := 42) rfl)), rfl, hnm⟩) (hw _ (List.mem_of_getElem? (i := 27) rfl)) (ty := .boolean) (v' := .int (p6 &&& 1)) (by decide) rfl (fits_nar_bool _) (g := (mkF m 28 #[.val (.ref a1), .val (.ref a2), .val (.ref a3), .val (.ref a4), .val (.int p5), .val (.int p6), .val (.int p7), .val (.long q8), .second, .val (.int p9), .val (.ref a10)] [(.int p6), (.ref a1)])) rfl rfl (hb hby d6_28)
  have f59 := f45.wr W58
  have f60 := f46.other W58 (Or.inr (slot_ne (Or.inr (hw _ (List.mem_of_getElem? (i := 34) rfl))) (Or.inr (hw _ (List.mem_of_getElem? (i := 42) rfl))) (by decide) (t := (.object "java/lang/String")) (t' := .boolean) (by decide) (by decide)))
  have f61 := f47.other W58 (Or.inr (slot_ne (Or.inr (hw _ (List.mem_of_getElem? (i := 36) rfl))) (Or.inr (hw _ (List.mem_of_getElem? (i := 42) rfl))) (by decide) (t := (.object "java/lang/String")) (t' := .boolean) (by decide) (by decide)))
  have f62 := f48.other W58 (Or.inr (slot_ne (Or.inr (hw _ (List.mem_of_getElem? (i := 38) rfl))) (Or.inr (hw _ (List.mem_of_getElem? (i := 42) rfl))) (by decide) (t := (.object "java/lang/String")) (t' := .boolean) (by decide) (by decide)))
  have f63 := f49.other W58 (Or.inr (slot_ne (Or.inr (hw _ (List.mem_of_getElem? (i := 40) rfl))) (Or.inr (hw _ (List.mem_of_getElem? (i := 42) rfl))) (by decide) (t := .boolean) (t' := .boolean) (by decide) (by decide)))
  have f64 := f50.same W58
  have f65 := f51.other W58 (Or.inr (slot_ne (Or.inr (hw _ (List.mem_of_getElem? (i := 44) rfl))) (Or.inr (hw _ (List.mem_of_getElem? (i := 42) rfl))) (by decide) (t := .boolean) (t' := .boolean) (by decide) (by decide)))
  have f66 := f52.other W58 (Or.inr (slot_ne (Or.inr (hw _ (List.mem_of_getElem? (i := 46) rfl))) (Or.inr (hw _ (List.mem_of_getElem? (i := 42) rfl))) (by decide) (t := .long) (t' := .boolean) (by decide) (by decide)))
  have f67 := f53.other W58 (Or.inr (slot_ne (Or.inr (hw _ (List.mem_of_getElem? (i := 48) rfl))) (Or.inr (hw _ (List.mem_of_getElem? (i := 42) rfl))) (by decide) (t := .boolean) (t' := .boolean) (by decide) (by decide)))
  have f68 := f54.other W58 (Or.inr (slot_ne (Or.inr (hw _ (List.mem_of_getElem? (i := 50) rfl))) (Or.inr (hw _ (List.mem_of_getElem? (i := 42) rfl))) (by decide) (t := (.array .byte)) (t' := .boolean) (by decide) (by decide)))
  have kp69 := kp55.wr W58 (Or.inl (List.mem_of_getElem? (i := 0) rfl))
  have z70 := Nat.le_trans z56 (Keep.of_wr W58).1
  have N71 := Fr.snoc X58 N57 g_a1
  obtain ⟨T72, h72, X72, e72, W72, st72⟩ := putFN X58 hx hZ hown (hw _ (List.mem_of_getElem? (i := 43) rfl)) Via.refl e58 f65 f59 (Or.inr ⟨(hw _ (List.mem_of_getElem? (i := 44) rfl)), rfl, hnm⟩) (hw _ (List.mem_of_getElem? (i := 27) rfl)) (ty := .boolean) (v' := .int (p7 &&& 1)) (by decide) rfl (fits_nar_bool _) (g := (mkF m 34 #[.val (.ref a1), .val (.ref a2), .val (.ref a3), .val (.ref a4), .val (.int p5), .val (.int p6), .val (.int p7), .val (.long q8), .second, .val (.int p9), .val (.ref a10)] [(.int p7), (.ref a1)])) rfl rfl (hb hby d6_34)
  have f73 := f59.wr W72
  have f74 := f60.other W72 (Or.inr (slot_ne (Or.inr (hw _ (List.mem_of_getElem? (i := 34) rfl))) (Or.inr (hw _ (List.mem_of_getElem? (i := 44) rfl))) (by decide) (t := (.object "java/lang/String")) (t' := .boolean) (by decide) (by decide)))
  have f75 := f61.other W72 (Or.inr (slot_ne (Or.inr (hw _ (List.mem_of_getElem? (i := 36) rfl))) (Or.inr (hw _ (List.mem_of_getElem? (i := 44) rfl))) (by decide) (t := (.object "java/lang/String")) (t' := .boolean) (by decide) (by decide)))
  have f76 := f62.other W72 (Or.inr (slot_ne (Or.inr (hw _ (List.mem_of_getElem? (i := 38) rfl))) (Or.inr (hw _ (List.mem_of_getElem? (i := 44) rfl))) (by decide) (t := (.object "java/lang/String")) (t' := .boolean) (by decide) (by decide)))
  have f77 := f63.other W72 (Or.inr (slot_ne (Or.inr (hw _ (List.mem_of_getElem? (i := 40) rfl))) (Or.inr (hw _ (List.mem_of_getElem? (i := 44) rfl))) (by decide) (t := .boolean) (t' := .boolean) (by decide) (by decide)))
  have f78 := f64.other W72 (Or.inr (slot_ne (Or.inr (hw _ (List.mem_of_getElem? (i := 42) rfl))) (Or.inr (hw _ (List.mem_of_getElem? (i := 44) rfl))) (by decide) (t := .boolean) (t' := .boolean) (by decide) (by decide)))
  have f79 := f65.same W72
  have f80 := f66.other W72 (Or.inr (slot_ne (Or.inr (hw _ (List.mem_of_getElem? (i := 46) rfl))) (Or.inr (hw _ (List.mem_of_getElem? (i := 44) rfl))) (by decide) (t := .long) (t' := .boolean) (by decide) (by decide)))
  have f81 := f67.other W72 (Or.inr (slot_ne (Or.inr (hw _ (List.mem_of_getElem? (i := 48) rfl))) (Or.inr (hw _ (List.mem_of_getElem? (i := 44) rfl))) (by decide) (t := .boolean) (t' := .boolean) (by decide) (by decide)))
  have f82 := f68.other W72 (Or.inr (slot_ne (Or.inr (hw _ (List.mem_of_getElem? (i := 50) rfl))) (Or.inr (hw _ (List.mem_of_getElem? (i := 44) rfl))) (by decide) (t := (.array .byte)) (t' := .boolean) (by decide) (by decide)))
  have kp83 := kp69.wr W72 (Or.inl (List.mem_of_getElem? (i := 0) rfl))
  have z84 := Nat.le_trans z70 (Keep.of_wr W72).1
  have N85 := Fr.snoc X72 N71 g_a1
  obtain ⟨T86, h86, X86, e86, W86, st86⟩ := putF X72 hx hZ hown (host := "") (Or.inl (hw _ (List.mem_of_getElem? (i := 45) rfl))) Via.refl e72 f80 f73 (Or.inr ⟨(hw _ (List.mem_of_getElem? (i := 46) rfl)), rfl, hnm⟩) (hw _ (List.mem_of_getElem? (i := 27) rfl)) (ty := .long) (by decide) rfl rfl (g := (mkF m 40 #[.val (.ref a1), .val (.ref a2), .val (.ref a3), .val (.ref a4), .val (.int p5), .val (.int p6), .val (.int p7), .val (.long q8), .second, .val (.int p9), .val (.ref a10)] [(.long q8), (.ref a1)])) rfl rfl (hb hby d6_40)
  have f87 := f73.wr W86
  have f88 := f74.other W86 (Or.inr (slot_ne (Or.inr (hw _ (List.mem_of_getElem? (i := 34) rfl))) (Or.inr (hw _ (List.mem_of_getElem? (i := 46) rfl))) (by decide) (t := (.object "java/lang/String")) (t' := .long) (by decide) (by decide)))
  have f89 := f75.other W86 (Or.inr (slot_ne (Or.inr (hw _ (List.mem_of_getElem? (i := 36) rfl))) (Or.inr (hw _ (List.mem_of_getElem? (i := 46) rfl))) (by decide) (t := (.object "java/lang/String")) (t' := .long) (by decide) (by decide)))
  have f90 := f76.other W86 (Or.inr (slot_ne (Or.inr (hw _ (List.mem_of_getElem? (i := 38) rfl))) (Or.inr (hw _ (List.mem_of_getElem? (i := 46) rfl))) (by decide) (t := (.object "java/lang/String")) (t' := .long) (by decide) (by decide)))
  have f91 := f77.other W86 (Or.inr (slot_ne (Or.inr (hw _ (List.mem_of_getElem? (i := 40) rfl))) (Or.inr (hw _ (List.mem_of_getElem? (i := 46) rfl))) (by decide) (t := .boolean) (t' := .long) (by decide) (by decide)))
  have f92 := f78.other W86 (Or.inr (slot_ne (Or.inr (hw _ (List.mem_of_getElem? (i := 42) rfl))) (Or.inr (hw _ (List.mem_of_getElem? (i := 46) rfl))) (by decide) (t := .boolean) (t' := .long) (by decide) (by decide)))
  have f93 := f79.other W86 (Or.inr (slot_ne (Or.inr (hw _ (List.mem_of_getElem? (i := 44) rfl))) (Or.inr (hw _ (List.mem_of_getElem? (i := 46) rfl))) (by decide) (t := .boolean) (t' := .long) (by decide) (by decide)))
  have f94 := f80.same W86
  have f95 := f81.other W86 (Or.inr (slot_ne (Or.inr (hw _ (List.mem_of_getElem? (i := 48) rfl))) (Or.inr (hw _ (List.mem_of_getElem? (i := 46) rfl))) (by decide) (t := .boolean) (t' := .long) (by decide) (by decide)))
  have f96 := f82.other W86 (Or.inr (slot_ne (Or.inr (hw _ (List.mem_of_getElem? (i := 50) rfl))) (Or.inr (hw _ (List.mem_of_getElem? (i := 46) rfl))) (by decide) (t := (.array .byte)) (t' := .long) (by decide) (by decide)))
  have kp97 := kp83.wr W86 (Or.inl (List.mem_of_getElem? (i := 0) rfl))
  have z98 := Nat.le_trans z84 (Keep.of_wr W86).1
  have N99 := Fr.snoc X86 N85 g_a1
  obtain ⟨T100, h100, X100, e100, W100, st100⟩ := putFN X86 hx hZ hown (hw _ (List.mem_of_getElem? (i := 47) rfl)) Via.refl e86 f95 f87 (Or.inr ⟨(hw _ (List.mem_of_getElem? (i := 48) rfl)), rfl, hnm⟩) (hw _ (List.mem_of_getElem? (i := 27) rfl)) (ty := .boolean) (v' := .int (p9 &&& 1)) (by decide) rfl (fits_nar_bool _) (g := (mkF m 46 #[.val (.ref a1), .val (.ref a2), .val (.ref a3), .val (.ref a4), .val (.int p5), .val (.int p6), .val (.int p7), .val (.long q8), .second, .val (.int p9), .val (.ref a10)] [(.int p9), (.ref a1)])) rfl rfl (hb hby d6_46)
  have f101 := f87.wr W100
  have f102 := f88.other W100 (Or.inr (slot_ne (Or.inr (hw _ (List.mem_of_getElem? (i := 34) rfl))) (Or.inr (hw _ (List.mem_of_getElem? (i := 48) rfl))) (by decide) (t := (.object "java/lang/String")) (t' := .boolean) (by decide) (by decide)))
  have f103 := f89.other W100 (Or.inr (slot_ne (Or.inr (hw _ (List.mem_of_getElem? (i := 36) rfl))) (Or.inr (hw _ (List.mem_of_getElem? (i := 48) rfl))) (by decide) (t := (.object "java/lang/String")) (t' := .boolean) (by decide) (by decide)))
  have f104 := f90.other W100 (Or.inr (slot_ne (Or.inr (hw _ (List.mem_of_getElem? (i := 38) rfl))) (Or.inr (hw _ (List.mem_of_getElem? (i := 48) rfl))) (by decide) (t := (.object "java/lang/String")) (t' := .boolean) (by decide) (by decide)))
  have f105 := f91.other W100 (Or.inr (slot_ne (Or.inr (hw _ (List.mem_of_getElem? (i := 40) rfl))) (Or.inr (hw _ (List.mem_of_getElem? (i := 48) rfl))) (by decide) (t := .boolean) (t' := .boolean) (by decide) (by decide)))
  have f106 := f92.other W100 (Or.inr (slot_ne (Or.inr (hw _ (List.mem_of_getElem? (i := 42) rfl))) (Or.inr (hw _ (List.mem_of_getElem? (i := 48) rfl))) (by decide) (t := .boolean) (t' := .boolean) (by decide) (by decide)))
  have f107 := f93.other W100 (Or.inr (slot_ne (Or.inr (hw _ (List.mem_of_getElem? (i := 44) rfl))) (Or.inr (hw _ (List.mem_of_getElem? (i := 48) rfl))) (by decide) (t := .boolean) (t' := .boolean) (by decide) (by decide)))
  have f108 := f94.other W100 (Or.inr (slot_ne (Or.inr (hw _ (List.mem_of_getElem? (i := 46) rfl))) (Or.inr (hw _ (List.mem_of_getElem? (i := 48) rfl))) (by decide) (t := .long) (t' := .boolean) (by decide) (by decide)))
  have f109 := f95.same W100
  have f110 := f96.other W100 (Or.inr (slot_ne (Or.inr (hw _ (List.mem_of_getElem? (i := 50) rfl))) (Or.inr (hw _ (List.mem_of_getElem? (i := 48) rfl))) (by decide) (t := (.array .byte)) (t' := .boolean) (by decide) (by decide)))
  have kp111 := kp97.wr W100 (Or.inl (List.mem_of_getElem? (i := 0) rfl))
  have z112 := Nat.le_trans z98 (Keep.of_wr W100).1
  have N113 := Fr.snoc X100 N99 g_a1
  obtain ⟨T114, h114, X114, e114, W114, st114⟩ := putF X100 hx hZ hown (host := "") (Or.inl (hw _ (List.mem_of_getElem? (i := 49) rfl))) Via.refl e100 f110 f101 (Or.inr ⟨(hw _ (List.mem_of_getElem? (i := 50) rfl)), rfl, hnm⟩) (hw _ (List.mem_of_getElem? (i := 27) rfl)) (ty := (.array .byte)) (by decide) rfl rfl (g := (mkF m 52 #[.val (.ref a1), .val (.ref a2), .val (.ref a3), .val (.ref a4), .val (.int p5), .val (.int p6), .val (.int p7), .val (.long q8), .second, .val (.int p9), .val (.ref a10)] [(.ref a10), (.ref a1)])) rfl rfl (hb hby d6_52)
  have f115 := f101.wr W114
  have f116 := f102.other W114 (Or.inr (slot_ne (Or.inr (hw _ (List.mem_of_getElem? (i := 34) rfl))) (Or.inr (hw _ (List.mem_of_getElem? (i := 50) rfl))) (by decide) (t := (.object "java/lang/String")) (t' := (.array .byte)) (by decide) (by decide)))
  have f117 := f103.other W114 (Or.inr (slot_ne (Or.inr (hw _ (List.mem_of_getElem? (i := 36) rfl))) (Or.inr (hw _ (List.mem_of_getElem? (i := 50) rfl))) (by decide) (t := (.object "java/lang/String")) (t' := (.array .byte)) (by decide) (by decide)))
  have f118 := f104.other W114 (Or.inr (slot_ne (Or.inr (hw _ (List.mem_of_getElem? (i := 38) rfl))) (Or.inr (hw _ (List.mem_of_getElem? (i := 50) rfl))) (by decide) (t := (.object "java/lang/String")) (t' := (.array .byte)) (by decide) (by decide)))
  have f119 := f105.other W114 (Or.inr (slot_ne (Or.inr (hw _ (List.mem_of_getElem? (i := 40) rfl))) (Or.inr (hw _ (List.mem_of_getElem? (i := 50) rfl))) (by decide) (t := .boolean) (t' := (.array .byte)) (by decide) (by decide)))
  have f120 := f106.other W114 (Or.inr (slot_ne (Or.inr (hw _ (List.mem_of_getElem? (i := 42) rfl))) (Or.inr (hw _ (List.mem_of_getElem? (i := 50) rfl))) (by decide) (t := .boolean) (t' := (.array .byte)) (by decide) (by decide)))
  have f121 := f107.other W114 (Or.inr (slot_ne (Or.inr (hw _ (List.mem_of_getElem? (i := 44) rfl))) (Or.inr (hw _ (List.mem_of_getElem? (i := 50) rfl))) (by decide) (t := .boolean) (t' := (.array .byte)) (by decide) (by decide)))
  have f122 := f108.other W114 (Or.inr (slot_ne (Or.inr (hw _ (List.mem_of_getElem? (i := 46) rfl))) (Or.inr (hw _ (List.mem_of_getElem? (i := 50) rfl))) (by decide) (t := .long) (t' := (.array .byte)) (by decide) (by decide)))
  have f123 := f109.other W114 (Or.inr (slot_ne (Or.inr (hw _ (List.mem_of_getElem? (i := 48) rfl))) (Or.inr (hw _ (List.mem_of_getElem? (i := 50) rfl))) (by decide) (t := .boolean) (t' := (.array .byte)) (by decide) (by decide)))
  have f124 := f110.same W114
  have kp125 := kp111.wr W114 (Or.inl (List.mem_of_getElem? (i := 0) rfl))
  have z126 := Nat.le_trans z112 (Keep.of_wr W114).1
  have N127 := Fr.snoc X114 N113 g_a1
  obtain ⟨fs, hr, hrun, hended, hW, hsame⟩ := X114.leave (v := none) (fun _ => rfl)
  refine ⟨_, _, pre0 _ ?_, hrun, hended, _, _, rfl, ?_, ⟨_, rfl⟩, hW, hsame.mono (by decide) (by decide)⟩
  · show Steps p.tables e below (s₁.setTop (mkF m 0 #[.val (.ref a1), .val (.ref a2), .val (.ref a3), .val (.ref a4), .val (.int p5), .val (.int p6), .val (.int p7), .val (.long q8), .second, .val (.int p9), .val (.ref a10)] [])) _
    refine XS.aloadN X0.here hx rfl (hb hby d6_0) rfl rfl ?_
    show Steps p.tables e below (s₁.setTop (mkF m 1 #[.val (.ref a1), .val (.ref a2), .val (.ref a3), .val (.ref a4), .val (.int p5), .val (.int p6), .val (.int p7), .val (.long q8), .second, .val (.int p9), .val (.ref a10)] [(.ref a1)])) _
    refine st1 _ ?_
    show Steps p.tables e below (T1.setTop (mkF m 4 #[.val (.ref a1), .val (.ref a2), .val (.ref a3), .val (.ref a4), .val (.int p5), .val (.int p6), .val (.int p7), .val (.long q8), .second, .val (.int p9), .val (.ref a10)] [])) _
    refine XS.aloadN X1.here hx rfl (hb hby d6_4) rfl rfl ?_
    show Steps p.tables e below (T1.setTop (mkF m 5 #[.val (.ref a1), .val (.ref a2), .val (.ref a3), .val (.ref a4), .val (.int p5), .val (.int p6), .val (.int p7), .val (.long q8), .second, .val (.int p9), .val (.ref a10)] [(.ref a1)])) _
    refine XS.aloadN X1.here hx rfl (hb hby d6_5) rfl rfl ?_
    show Steps p.tables e below (T1.setTop (mkF m 6 #[.val (.ref a1), .val (.ref a2), .val (.ref a3), .val (.ref a4), .val (.int p5), .val (.int p6), .val (.int p7), .val (.long q8), .second, .val (.int p9), .val (.ref a10)] [(.ref a2), (.ref a1)])) _
    refine st2 _ ?_
    show Steps p.tables e below (T2.setTop (mkF m 9 #[.val (.ref a1), .val (.ref a2), .val (.ref a3), .val (.ref a4), .val (.int p5), .val (.int p6), .val (.int p7), .val (.long q8), .second, .val (.int p9), .val (.ref a10)] [])) _
    refine XS.aloadN X2.here hx rfl (hb hby d6_9) rfl rfl ?_
    show Steps p.tables e below (T2.setTop (mkF m 10 #[.val (.ref a1), .val (.ref a2), .val (.ref a3), .val (.ref a4), .val (.int p5), .val (.int p6), .val (.int p7), .val (.long q8), .second, .val (.int p9), .val (.ref a10)] [(.ref a1)])) _
    refine XS.aloadN X2.here hx rfl (hb hby d6_10) rfl rfl ?_
    show Steps p.tables e below (T2.setTop (mkF m 11 #[.val (.ref a1), .val (.ref a2), .val (.ref a3), .val (.ref a4), .val (.int p5), .val (.int p6), .val (.int p7), .val (.long q8), .second, .val (.int p9), .val (.ref a10)] [(.ref a3), (.ref a1)])) _
    refine st16 _ ?_
    show Steps p.tables e below (T16.setTop (mkF m 14 #[.val (.ref a1), .val (.ref a2), .val (.ref a3), .val (.ref a4), .val (.int p5), .val (.int p6), .val (.int p7), .val (.long q8), .second, .val (.int p9), .val (.ref a10)] [])) _
    refine XS.aloadN X16.here hx rfl (hb hby d6_14) rfl rfl ?_
    show Steps p.tables e below (T16.setTop (mkF m 15 #[.val (.ref a1), .val (.ref a2), .val (.ref a3), .val (.ref a4), .val (.int p5), .val (.int p6), .val (.int p7), .val (.long q8), .second, .val (.int p9), .val (.ref a10)] [(.ref a1)])) _
    refine XS.aloadN X16.here hx rfl (hb hby d6_15) rfl rfl ?_
    show Steps p.tables e below (T16.setTop (mkF m 16 #[.val (.ref a1), .val (.ref a2), .val (.ref a3), .val (.ref a4), .val (.int p5), .val (.int p6), .val (.int p7), .val (.long q8), .second, .val (.int p9), .val (.ref a10)] [(.ref a4), (.ref a1)])) _
    refine st30 _ ?_
    show Steps p.tables e below (T30.setTop (mkF m 19 #[.val (.ref a1), .val (.ref a2), .val (.ref a3), .val (.ref a4), .val (.int p5), .val (.int p6), .val (.int p7), .val (.long q8), .second, .val (.int p9), .val (.ref a10)] [])) _
    refine XS.aloadN X30.here hx rfl (hb hby d6_19) rfl rfl ?_
    show Steps p.tables e below (T30.setTop (mkF m 20 #[.val (.ref a1), .val (.ref a2), .val (.ref a3), .val (.ref a4), .val (.int p5), .val (.int p6), .val (.int p7), .val (.long q8), .second, .val (.int p9), .val (.ref a10)] [(.ref a1)])) _
    refine XS.iload X30.here hx rfl (hb hby d6_20) rfl ?_
    show Steps p.tables e below (T30.setTop (mkF m 22 #[.val (.ref a1), .val (.ref a2), .val (.ref a3), .val (.ref a4), .val (.int p5), .val (.int p6), .val (.int p7), .val (.long q8), .second, .val (.int p9), .val (.ref a10)] [(.int p5), (.ref a1)])) _
    refine st44 _ ?_
    show Steps p.tables e below (T44.setTop (mkF m 25 #[.val (.ref a1), .val (.ref a2), .val (.ref a3), .val (.ref a4), .val (.int p5), .val (.int p6), .val (.int p7), .val (.long q8), .second, .val (.int p9), .val (.ref a10)] [])) _
    refine XS.aloadN X44.here hx rfl (hb hby d6_25) rfl rfl ?_
    show Steps p.tables e below (T44.setTop (mkF m 26 #[.val (.ref a1), .val (.ref a2), .val (.ref a3), .val (.ref a4), .val (.int p5), .val (.int p6), .val (.int p7), .val (.long q8), .second, .val (.int p9), .val (.ref a10)] [(.ref a1)])) _
    refine XS.iload X44.here hx rfl (hb hby d6_26) rfl ?_
    show Steps p.tables e below (T44.setTop (mkF m 28 #[.val (.ref a1), .val (.ref a2), .val (.ref a3), .val (.ref a4), .val (.int p5), .val (.int p6), .val (.int p7), .val (.long q8), .second, .val (.int p9), .val (.ref a10)] [(.int p6), (.ref a1)])) _
    refine st58 _ ?_
    show Steps p.tables e below (T58.setTop (mkF m 31 #[.val (.ref a1), .val (.ref a2), .val (.ref a3), .val (.ref a4), .val (.int p5), .val (.int p6), .val (.int p7), .val (.long q8), .second, .val (.int p9), .val (.ref a10)] [])) _
    refine XS.aloadN X58.here hx rfl (hb hby d6_31) rfl rfl ?_
    show Steps p.tables e below (T58.setTop (mkF m 32 #[.val (.ref a1), .val (.ref a2), .val (.ref a3), .val (.ref a4), .val (.int p5), .val (.int p6), .val (.int p7), .val (.long q8), .second, .val (.int p9), .val (.ref a10)] [(.ref a1)])) _
    refine XS.iload X58.here hx rfl (hb hby d6_32) rfl ?_
    show Steps p.tables e below (T58.setTop (mkF m 34 #[.val (.ref a1), .val (.ref a2), .val (.ref a3), .val (.ref a4), .val (.int p5), .val (.int p6), .val (.int p7), .val (.long q8), .second, .val (.int p9), .val (.ref a10)] [(.int p7), (.ref a1)])) _
    refine st72 _ ?_
    show Steps p.tables e below (T72.setTop (mkF m 37 #[.val (.ref a1), .val (.ref a2), .val (.ref a3), .val (.ref a4), .val (.int p5), .val (.int p6), .val (.int p7), .val (.long q8), .second, .val (.int p9), .val (.ref a10)] [])) _
    refine XS.aloadN X72.here hx rfl (hb hby d6_37) rfl rfl ?_
    show Steps p.tables e below (T72.setTop (mkF m 38 #[.val (.ref a1), .val (.ref a2), .val (.ref a3), .val (.ref a4), .val (.int p5), .val (.int p6), .val (.int p7), .val (.long q8), .second, .val (.int p9), .val (.ref a10)] [(.ref a1)])) _
    refine XS.lload X72.here hx rfl (hb hby d6_38) rfl ?_
    show Steps p.tables e below (T72.setTop (mkF m 40 #[.val (.ref a1), .val (.ref a2), .val (.ref a3), .val (.ref a4), .val (.int p5), .val (.int p6), .val (.int p7), .val (.long q8), .second, .val (.int p9), .val (.ref a10)] [(.long q8), (.ref a1)])) _
    refine st86 _ ?_
    show Steps p.tables e below (T86.setTop (mkF m 43 #[.val (.ref a1), .val (.ref a2), .val (.ref a3), .val (.ref a4), .val (.int p5), .val (.int p6), .val (.int p7), .val (.long q8), .second, .val (.int p9), .val (.ref a10)] [])) _
    refine XS.aloadN X86.here hx rfl (hb hby d6_43) rfl rfl ?_
    show Steps p.tables e below (T86.setTop (mkF m 44 #[.val (.ref a1), .val (.ref a2), .val (.ref a3), .val (.ref a4), .val (.int p5), .val (.int p6), .val (.int p7), .val (.long q8), .second, .val (.int p9), .val (.ref a10)] [(.ref a1)])) _
    refine XS.iload X86.here hx rfl (hb hby d6_44) rfl ?_
    show Steps p.tables e below (T86.setTop (mkF m 46 #[.val (.ref a1), .val (.ref a2), .val (.ref a3), .val (.ref a4), .val (.int p5), .val (.int p6), .val (.int p7), .val (.long q8), .second, .val (.int p9), .val (.ref a10)] [(.int p9), (.ref a1)])) _
    refine st100 _ ?_
    show Steps p.tables e below (T100.setTop (mkF m 49 #[.val (.ref a1), .val (.ref a2), .val (.ref a3), .val (.ref a4), .val (.int p5), .val (.int p6), .val (.int p7), .val (.long q8), .second, .val (.int p9), .val (.ref a10)] [])) _
    refine XS.aloadN X100.here hx rfl (hb hby d6_49) rfl rfl ?_
    show Steps p.tables e below (T100.setTop (mkF m 50 #[.val (.ref a1), .val (.ref a2), .val (.ref a3), .val (.ref a4), .val (.int p5), .val (.int p6), .val (.int p7), .val (.long q8), .second, .val (.int p9), .val (.ref a10)] [(.ref a1)])) _
    refine XS.aload X100.here hx rfl (hb hby d6_50) rfl rfl ?_
    show Steps p.tables e below (T100.setTop (mkF m 52 #[.val (.ref a1), .val (.ref a2), .val (.ref a3), .val (.ref a4), .val (.int p5), .val (.int p6), .val (.int p7), .val (.long q8), .second, .val (.int p9), .val (.ref a10)] [(.ref a10), (.ref a1)])) _
    refine st114 _ ?_
    show Steps p.tables e below (T114.setTop (mkF m 55 #[.val (.ref a1), .val (.ref a2), .val (.ref a3), .val (.ref a4), .val (.int p5), .val (.int p6), .val (.int p7), .val (.long q8), .second, .val (.int p9), .val (.ref a10)] [])) _
    exact X114.returnOut hx Bd.returns (hb hby d6_55) hr
  · show own_QR Z a1 p5 p6 h0 n0 _ T114.heap _
    rw [e114]
    exact ⟨rfl, N127, kp125, f115, f119, f120⟩
def own_cl (c h : Int32) : Int32 := if c = 0 then (if h = 0 then 0 else 1) else 1
def own_QK (Z : State) (a1 : Addr) (c h : Int32) := own_QI (own_cl c h) Z
theorem d7_0 : decode prog_41_method_5_code 0 = .ok (.aload_n 0, 1) := by decide +kernel
theorem d7_1 : decode prog_41_method_5_code 1 = .ok (.getfield 23, 3) := by decide +kernel
theorem d7_4 : decode prog_41_method_5_code 4 = .ok (.ifCond .ne 10, 3) := by decide +kernel
theorem d7_7 : decode prog_41_method_5_code 7 = .ok (.aload_n 0, 1) := by decide +kernel
theorem d7_8 : decode prog_41_method_5_code 8 = .ok (.getfield 19, 3) := by decide +kernel
theorem d7_11 : decode prog_41_method_5_code 11 = .ok (.ifCond .eq 7, 3) := by decide +kernel
theorem d7_14 : decode prog_41_method_5_code 14 = .ok (.iconst 1, 1) := by decide +kernel
theorem d7_15 : decode prog_41_method_5_code 15 = .ok (.goto 4, 3) := by decide +kernel
theorem d7_18 : decode prog_41_method_5_code 18 = .ok (.iconst 0, 1) := by decide +kernel
theorem d7_19 : decode prog_41_method_5_code 19 = .ok (.ireturn, 1) := by decide +kernel
theorem pn_7 : plainName "com/example/hatchd/hatchd/server/RequestReader$Request" = true := by first | (simp [plainName, overriddenIn]; done) | decide +kernel
theorem ef_7 (m : MethodId) (x0 : Addr) : entryFrame m #[(.ref x0)] 1 = mkF m 0 #[.val (.ref x0)] [] := by first | (simp [entryFrame, mkF, argsToLocals, Value.category]; done) | rfl
set_option maxRecDepth 65536 in
set_option maxHeartbeats 40000000 in
theorem rm7 (l : Launch) (Z : State) (a0 : Array Value) (hw : ∀ d ∈ tables_1, d.before a0 Z = true) (ws : List Jvm.Cond) (a1 : Addr) (c1 h1 : Int32) (h0 : Heap) (n0 : Nat) (Z0 : n0 ≤ h0.size) (F1 : Fld Z h0 a1 "com/example/hatchd/hatchd/server/RequestReader$Request" "close" "Z" (.int c1)) (F2 : Fld Z h0 a1 "com/example/hatchd/hatchd/server/RequestReader$Request" "http10" "Z" (.int h1)) :
    MetFree l (⟨"com/example/hatchd/hatchd/server/RequestReader$Request", "closes", "()Z"⟩ : MethodName) (head1 (Jvm.Cond.code (⟨"com/example/hatchd/hatchd/server/RequestReader$Request", "closes", "()Z"⟩ : MethodName) prog_41_method_5_code 1 (some .boolean) :: ws) ({ frames := 0, cells := 0, slots := 0, locals := 0 } : Room)) (fun a U => a = #[(.ref a1)] ∧ Z.Warmed39 U.vm ∧ U.heap = h0) (fun _ _ _ _ _ => True) (fun _ U o U' => ∃ v L, o = .returned v ∧ own_QK Z a1 c1 h1 h0 n0 v U'.heap L ∧ FrameEnd U o U' L ({ frames := 0, cells := 0, slots := 0, locals := 0 } : Room).cells ({ frames := 0, cells := 0, slots := 0, locals := 0 } : Room).slots) := by
  refine MetFree.of_bodySF (plainFor_of_name pn_7) hisR ?_
  intro p e s m args below meth c s₁ Bd hml0 hP hK
  obtain ⟨rfl, hZ, hh⟩ := hP
  have hx := Bd.exec
  have hby := Bd.bytes
  have hml : c.maxLocals = 1 := hml0
  have hown : s.vm.findClass "com/example/hatchd/hatchd/server/RequestReader$Request" = some m.cls := findClass_of_methodNamed Bd.named
  have hnm := (name_of_methodNamed Bd.named Bd.method).1
  have X0 : Stand p l e ({ frames := 0, cells := 0, slots := 0, locals := 0 } : Room) s m #[(.ref a1)] below meth c s₁ [] 0 0 := Stand.of_body Bd
  have e0 : s₁.heap = h0 := by rw [← hh, Bd.state]; rfl
  have N0 := Fr.nil n0
  have pre0 : ∀ tq, Steps p.tables e below (s₁.setTop (mkF m 0 #[.val (.ref a1)] [])) tq → Steps p.tables e below (s₁.setTop (entryFrame m #[(.ref a1)] 1)) tq := fun tq k => castTop (ef_7 m a1) k
  obtain ⟨T1, X1, e1, st1⟩ := getF X0 hx hZ hown (host := "") (Or.inl (hw _ (List.mem_of_getElem? (i := 41) rfl))) Via.refl e0 F1 (g := (mkF m 1 #[.val (.ref a1)] [(.ref a1)])) rfl rfl (hb hby d7_1)
  have k2 : ∀ tq, Steps p.tables e below (T1.setTop (mkF m 4 #[.val (.ref a1)] [(.int c1)])) tq → Steps p.tables e below (s₁.setTop (entryFrame m #[(.ref a1)] 1)) tq := by
    intro tq kt
    refine pre0 tq ?_
    show Steps p.tables e below (s₁.setTop (mkF m 0 #[.val (.ref a1)] [])) _
    refine XS.aloadN X0.here hx rfl (hb hby d7_0) rfl rfl ?_
    show Steps p.tables e below (s₁.setTop (mkF m 1 #[.val (.ref a1)] [(.ref a1)])) _
    refine st1 _ ?_
    exact kt
  by_cases hc3 : c1 = (0 : Int32)
  · obtain ⟨T4, X4, e4, st4⟩ := getF X1 hx hZ hown (host := "") (Or.inl (hw _ (List.mem_of_getElem? (i := 39) rfl))) Via.refl e1 F2 (g := (mkF m 8 #[.val (.ref a1)] [(.ref a1)])) rfl rfl (hb hby d7_8)
    have k5 : ∀ tq, Steps p.tables e below (T4.setTop (mkF m 11 #[.val (.ref a1)] [(.int h1)])) tq → Steps p.tables e below (s₁.setTop (entryFrame m #[(.ref a1)] 1)) tq := by
      intro tq kt
      refine k2 tq ?_
      show Steps p.tables e below (T1.setTop (mkF m 4 #[.val (.ref a1)] [(.int c1)])) _
      refine XS.ifNo X1.here hx rfl (hb hby d7_4) rfl ((if0 _ _).trans (teq hc3).2) ?_
      show Steps p.tables e below (T1.setTop (mkF m 7 #[.val (.ref a1)] [])) _
      refine XS.aloadN X1.here hx rfl (hb hby d7_7) rfl rfl ?_
      show Steps p.tables e below (T1.setTop (mkF m 8 #[.val (.ref a1)] [(.ref a1)])) _
      refine st4 _ ?_
      exact kt
    by_cases hc6 : h1 = (0 : Int32)
    · obtain ⟨fs, hr, hrun, hended, hW, hsame⟩ := X4.leave (v := some (.int (0 : Int32))) (fun h => by rw [Bd.returns] at h; cases h)
      refine ⟨_, _, k5 _ ?_, hrun, hended, _, _, rfl, ?_, ⟨_, rfl⟩, hW, hsame.mono (by decide) (by decide)⟩
      · show Steps p.tables e below (T4.setTop (mkF m 11 #[.val (.ref a1)] [(.int h1)])) _
        refine XS.ifYes X4.here hx rfl (pc0 := 11) (pc' := 18) rfl (hb hby d7_11) rfl ((if0 _ _).trans (teq hc6).1) (by decide) (by decide) ?_
        show Steps p.tables e below (T4.setTop (mkF m 18 #[.val (.ref a1)] [])) _
        refine XS.iconst X4.here hx rfl (hb hby d7_18) ?_
        show Steps p.tables e below (T4.setTop (mkF m 19 #[.val (.ref a1)] [(.int (0 : Int32))])) _
        exact retN X4 hx (t := .boolean) Bd.returns (by simp) (hb hby d7_19) hr
      · show own_QK Z a1 c1 h1 h0 n0 _ T4.heap _
        rw [e4]
        exact ⟨congrArg (fun z => some (Value.int z)) (show (0 : Int32) = own_cl c1 h1 from by unfold own_cl; rw [if_pos hc3]; rw [if_pos hc6]), N0, rfl⟩
    · obtain ⟨fs, hr, hrun, hended, hW, hsame⟩ := X4.leave (v := some (.int (1 : Int32))) (fun h => by rw [Bd.returns] at h; cases h)
      refine ⟨_, _, k5 _ ?_, hrun, hended, _, _, rfl, ?_, ⟨_, rfl⟩, hW, hsame.mono (by decide) (by decide)⟩
      · show Steps p.tables e below (T4.setTop (mkF m 11 #[.val (.ref a1)] [(.int h1)])) _
        refine XS.ifNo X4.here hx rfl (hb hby d7_11) rfl ((if0 _ _).trans (feq hc6).1) ?_
        show Steps p.tables e below (T4.setTop (mkF m 14 #[.val (.ref a1)] [])) _
        refine XS.iconst X4.here hx rfl (hb hby d7_14) ?_
        show Steps p.tables e below (T4.setTop (mkF m 15 #[.val (.ref a1)] [(.int (1 : Int32))])) _
        refine XS.goto X4.here hx rfl (pc0 := 15) (pc' := 19) rfl (hb hby d7_15) (by decide) (by decide) ?_
        show Steps p.tables e below (T4.setTop (mkF m 19 #[.val (.ref a1)] [(.int (1 : Int32))])) _
        exact retN X4 hx (t := .boolean) Bd.returns (by simp) (hb hby d7_19) hr
      · show own_QK Z a1 c1 h1 h0 n0 _ T4.heap _
        rw [e4]
        exact ⟨congrArg (fun z => some (Value.int z)) (show (1 : Int32) = own_cl c1 h1 from by unfold own_cl; rw [if_pos hc3]; rw [if_neg hc6]), N0, rfl⟩
  · obtain ⟨fs, hr, hrun, hended, hW, hsame⟩ := X1.leave (v := some (.int (1 : Int32))) (fun h => by rw [Bd.returns] at h; cases h)
    refine ⟨_, _, k2 _ ?_, hrun, hended, _, _, rfl, ?_, ⟨_, rfl⟩, hW, hsame.mono (by decide) (by decide)⟩
    · show Steps p.tables e below (T1.setTop (mkF m 4 #[.val (.ref a1)] [(.int c1)])) _
      refine XS.ifYes X1.here hx rfl (pc0 := 4) (pc' := 14) rfl (hb hby d7_4) rfl ((if0 _ _).trans (feq hc3).2) (by decide) (by decide) ?_
      show Steps p.tables e below (T1.setTop (mkF m 14 #[.val (.ref a1)] [])) _
      refine XS.iconst X1.here hx rfl (hb hby d7_14) ?_
      show Steps p.tables e below (T1.setTop (mkF m 15 #[.val (.ref a1)] [(.int (1 : Int32))])) _
      refine XS.goto X1.here hx rfl (pc0 := 15) (pc' := 19) rfl (hb hby d7_15) (by decide) (by decide) ?_
      show Steps p.tables e below (T1.setTop (mkF m 19 #[.val (.ref a1)] [(.int (1 : Int32))])) _
      exact retN X1 hx (t := .boolean) Bd.returns (by simp) (hb hby d7_19) hr
    · show own_QK Z a1 c1 h1 h0 n0 _ T1.heap _
      rw [e1]
      exact ⟨congrArg (fun z => some (Value.int z)) (show (1 : Int32) = own_cl c1 h1 from by unfold own_cl; rw [if_neg hc3]), N0, rfl⟩
theorem pd_4 : parseMethodDescriptor "()V" = some ⟨[], none⟩ := by decide +kernel
theorem pd_5 : parseMethodDescriptor "(Ljava/lang/String;Ljava/lang/String;Ljava/lang/String;ZZZJZ[B)V" = some ⟨[(.object "java/lang/String"), (.object "java/lang/String"), (.object "java/lang/String"), .boolean, .boolean, .boolean, .long, .boolean, (.array .byte)], none⟩ := by decide +kernel
theorem pd_6 : parseMethodDescriptor "()Z" = some ⟨[], some .boolean⟩ := by decide +kernel
def own_Q0 (Z : State) (fl : Int32) (cl : Int64) (c w : Int32) (h0 : Heap) (n0 : Nat) (v : Option Value) (h : Heap) (L : List Loc) : Prop := v = some (.int 1) ∧ Fr n0 L
theorem pn_0 : plainName "com/example/hatchd/hatchd/server/RequestClosesPinLaw" = true := by first | (simp [plainName, overriddenIn]; done) | decide +kernel
theorem ef_0 (m : MethodId) (x0 : Int32) (x1 : Int64) (x2 : Int32) : entryFrame m #[(.int x0), (.long x1), (.int x2)] maxLocals = mkF m 0 #[.val (.int x0), .val (.long x1), .second, .val (.int x2), .unset, .unset, .unset, .unset, .unset, .unset, .unset, .unset, .unset, .unset, .unset, .unset] [] := by first | (simp [entryFrame, mkF, argsToLocals, Value.category, maxLocals]; done) | rfl
set_option maxRecDepth 65536 in
set_option maxHeartbeats 40000000 in
theorem rm0 (l : Launch) (Z : State) (a0 : Array Value) (hw : ∀ d ∈ tables_1, d.before a0 Z = true) (ws : List Jvm.Cond) (fl : Int32) (cl : Int64) (cc w : Int32) (h0 : Heap) (n0 : Nat) (Z0 : n0 ≤ h0.size) (S0 : Sta Z h0 "java/lang/String" "COMPACT_STRINGS" "Z" (.int w)) (hw0 : ¬ w = (0 : Int32)) :
    MetFree l x (head1 (Jvm.Cond.code x code maxLocals ret :: ws) room_1) (fun a U => a = #[(.int fl), (.long cl), (.int cc)] ∧ Z.Warmed39 U.vm ∧ U.heap = h0) (fun _ _ _ _ _ => True) (fun _ U o U' => ∃ v L, o = .returned v ∧ own_Q0 Z fl cl cc w h0 n0 v U'.heap L ∧ FrameEnd U o U' L room_1.cells room_1.slots) := by
  refine MetFree.of_bodySF (plainFor_of_name pn_0) hisR ?_
  intro p e s m args below meth c s₁ Bd hml0 hP hK
  obtain ⟨rfl, hZ, hh⟩ := hP
  have hx := Bd.exec
  have hby := Bd.bytes
  have hml : c.maxLocals = 16 := hml0
  have hown : s.vm.findClass "com/example/hatchd/hatchd/server/RequestClosesPinLaw" = some m.cls := findClass_of_methodNamed Bd.named
  have hnm := (name_of_methodNamed Bd.named Bd.method).1
  have X0 : Stand p l e room_1 s m #[(.int fl), (.long cl), (.int cc)] below meth c s₁ [] 0 0 := Stand.of_body Bd
  have e0 : s₁.heap = h0 := by rw [← hh, Bd.state]; rfl
  have N0 := Fr.nil n0
  have pre0 : ∀ tq, Steps p.tables e below (s₁.setTop (mkF m 0 #[.val (.int fl), .val (.long cl), .second, .val (.int cc), .unset, .unset, .unset, .unset, .unset, .unset, .unset, .unset, .unset, .unset, .unset, .unset] [])) tq → Steps p.tables e below (s₁.setTop (entryFrame m #[(.int fl), (.long cl), (.int cc)] maxLocals)) tq := fun tq k => castTop (ef_0 m fl cl cc) k
  have k1 : ∀ tq, Steps p.tables e below (s₁.setTop (mkF m 3 #[.val (.int fl), .val (.long cl), .second, .val (.int cc), .unset, .unset, .unset, .unset, .unset, .unset, .unset, .unset, .unset, .unset, .unset, .unset] [(.int (fl &&& (1 : Int32)))])) tq → Steps p.tables e below (s₁.setTop (entryFrame m #[(.int fl), (.long cl), (.int cc)] maxLocals)) tq := by
    intro tq kt
    refine pre0 tq ?_
    show Steps p.tables e below (s₁.setTop (mkF m 0 #[.val (.int fl), .val (.long cl), .second, .val (.int cc), .unset, .unset, .unset, .unset, .unset, .unset, .unset, .unset, .unset, .unset, .unset, .unset] [])) _
    refine XS.iloadN X0.here hx rfl (hb hby at_0) rfl ?_
    show Steps p.tables e below (s₁.setTop (mkF m 1 #[.val (.int fl), .val (.long cl), .second, .val (.int cc), .unset, .unset, .unset, .unset, .unset, .unset, .unset, .unset, .unset, .unset, .unset, .unset] [(.int fl)])) _
    refine XS.iconst X0.here hx rfl (hb hby at_1) ?_
    show Steps p.tables e below (s₁.setTop (mkF m 2 #[.val (.int fl), .val (.long cl), .second, .val (.int cc), .unset, .unset, .unset, .unset, .unset, .unset, .unset, .unset, .unset, .unset, .unset, .unset] [(.int (1 : Int32)), (.int fl)])) _
    refine XS.iand X0.here hx rfl (hb hby at_2) rfl ?_
    exact kt
  obtain ⟨v3, hv3⟩ : ∃ z : Int32, z = if (fl &&& (1 : Int32)) = (0 : Int32) then (0 : Int32) else (1 : Int32) := ⟨_, rfl⟩
  have k4 : ∀ tq, Steps p.tables e below (s₁.setTop (mkF m 11 #[.val (.int fl), .val (.long cl), .second, .val (.int cc), .unset, .unset, .unset, .unset, .unset, .unset, .unset, .unset, .unset, .unset, .unset, .unset] [(.int v3)])) tq → Steps p.tables e below (s₁.setTop (entryFrame m #[(.int fl), (.long cl), (.int cc)] maxLocals)) tq := by
    intro tq kt
    by_cases hc2 : (fl &&& (1 : Int32)) = (0 : Int32)
    · rw [if_pos hc2] at hv3
      subst hv3
      refine k1 tq ?_
      show Steps p.tables e below (s₁.setTop (mkF m 3 #[.val (.int fl), .val (.long cl), .second, .val (.int cc), .unset, .unset, .unset, .unset, .unset, .unset, .unset, .unset, .unset, .unset, .unset, .unset] [(.int (fl &&& (1 : Int32)))])) _
      refine XS.ifYes X0.here hx rfl (pc0 := 3) (pc' := 10) rfl (hb hby at_3) rfl ((if0 _ _).trans (teq hc2).1) (by decide) (by decide) ?_
      show Steps p.tables e below (s₁.setTop (mkF m 10 #[.val (.int fl), .val (.long cl), .second, .val (.int cc), .unset, .unset, .unset, .unset, .unset, .unset, .unset, .unset, .unset, .unset, .unset, .unset] [])) _
      refine XS.iconst X0.here hx rfl (hb hby at_10) ?_
      exact kt
    · rw [if_neg hc2] at hv3
      subst hv3
      refine k1 tq ?_
      show Steps p.tables e below (s₁.setTop (mkF m 3 #[.val (.int fl), .val (.long cl), .second, .val (.int cc), .unset, .unset, .unset, .unset, .unset, .unset, .unset, .unset, .unset, .unset, .unset, .unset] [(.int (fl &&& (1 : Int32)))])) _
      refine XS.ifNo X0.here hx rfl (hb hby at_3) rfl ((if0 _ _).trans (feq hc2).1) ?_
      show Steps p.tables e below (s₁.setTop (mkF m 6 #[.val (.int fl), .val (.long cl), .second, .val (.int cc), .unset, .unset, .unset, .unset, .unset, .unset, .unset, .unset, .unset, .unset, .unset, .unset] [])) _
      refine XS.iconst X0.here hx rfl (hb hby at_6) ?_
      show Steps p.tables e below (s₁.setTop (mkF m 7 #[.val (.int fl), .val (.long cl), .second, .val (.int cc), .unset, .unset, .unset, .unset, .unset, .unset, .unset, .unset, .unset, .unset, .unset, .unset] [(.int (1 : Int32))])) _
      refine XS.goto X0.here hx rfl (pc0 := 7) (pc' := 11) rfl (hb hby at_7) (by decide) (by decide) ?_
      exact kt
  have bv3 : v3 &&& 1 = v3 := by rw [hv3]; split <;> rfl
  have k5 : ∀ tq, Steps p.tables e below (s₁.setTop (mkF m 16 #[.val (.int fl), .val (.long cl), .second, .val (.int cc), .val (.int v3), .unset, .unset, .unset, .unset, .unset, .unset, .unset, .unset, .unset, .unset, .unset] [(.int (fl &&& (2 : Int32)))])) tq → Steps p.tables e below (s₁.setTop (entryFrame m #[(.int fl), (.long cl), (.int cc)] maxLocals)) tq := by
    intro tq kt
    refine k4 tq ?_
    show Steps p.tables e below (s₁.setTop (mkF m 11 #[.val (.int fl), .val (.long cl), .second, .val (.int cc), .unset, .unset, .unset, .unset, .unset, .unset, .unset, .unset, .unset, .unset, .unset, .unset] [(.int v3)])) _
    refine XS.istore X0.here hx rfl (hb hby at_11) rfl (l' := #[.val (.int fl), .val (.long cl), .second, .val (.int cc), .val (.int v3), .unset, .unset, .unset, .unset, .unset, .unset, .unset, .unset, .unset, .unset, .unset]) rfl ?_
    show Steps p.tables e below (s₁.setTop (mkF m 13 #[.val (.int fl), .val (.long cl), .second, .val (.int cc), .val (.int v3), .unset, .unset, .unset, .unset, .unset, .unset, .unset, .unset, .unset, .unset, .unset] [])) _
    refine XS.iloadN X0.here hx rfl (hb hby at_13) rfl ?_
    show Steps p.tables e below (s₁.setTop (mkF m 14 #[.val (.int fl), .val (.long cl), .second, .val (.int cc), .val (.int v3), .unset, .unset, .unset, .unset, .unset, .unset, .unset, .unset, .unset, .unset, .unset] [(.int fl)])) _
    refine XS.iconst X0.here hx rfl (hb hby at_14) ?_
    show Steps p.tables e below (s₁.setTop (mkF m 15 #[.val (.int fl), .val (.long cl), .second, .val (.int cc), .val (.int v3), .unset, .unset, .unset, .unset, .unset, .unset, .unset, .unset, .unset, .unset, .unset] [(.int (2 : Int32)), (.int fl)])) _
    refine XS.iand X0.here hx rfl (hb hby at_15) rfl ?_
    exact kt
  obtain ⟨v7, hv7⟩ : ∃ z : Int32, z = if (fl &&& (2 : Int32)) = (0 : Int32) then (0 : Int32) else (1 : Int32) := ⟨_, rfl⟩
  have k8 : ∀ tq, Steps p.tables e below (s₁.setTop (mkF m 24 #[.val (.int fl), .val (.long cl), .second, .val (.int cc), .val (.int v3), .unset, .unset, .unset, .unset, .unset, .unset, .unset, .unset, .unset, .unset, .unset] [(.int v7)])) tq → Steps p.tables e below (s₁.setTop (entryFrame m #[(.int fl), (.long cl), (.int cc)] maxLocals)) tq := by
    intro tq kt
    by_cases hc6 : (fl &&& (2 : Int32)) = (0 : Int32)
    · rw [if_pos hc6] at hv7
      subst hv7
      refine k5 tq ?_
      show Steps p.tables e below (s₁.setTop (mkF m 16 #[.val (.int fl), .val (.long cl), .second, .val (.int cc), .val (.int v3), .unset, .unset, .unset, .unset, .unset, .unset, .unset, .unset, .unset, .unset, .unset] [(.int (fl &&& (2 : Int32)))])) _
      refine XS.ifYes X0.here hx rfl (pc0 := 16) (pc' := 23) rfl (hb hby at_16) rfl ((if0 _ _).trans (teq hc6).1) (by decide) (by decide) ?_
      show Steps p.tables e below (s₁.setTop (mkF m 23 #[.val (.int fl), .val (.long cl), .second, .val (.int cc), .val (.int v3), .unset, .unset, .unset, .unset, .unset, .unset, .unset, .unset, .unset, .unset, .unset] [])) _
      refine XS.iconst X0.here hx rfl (hb hby at_23) ?_
      exact kt
    · rw [if_neg hc6] at hv7
      subst hv7
      refine k5 tq ?_
      show Steps p.tables e below (s₁.setTop (mkF m 16 #[.val (.int fl), .val (.long cl), .second, .val (.int cc), .val (.int v3), .unset, .unset, .unset, .unset, .unset, .unset, .unset, .unset, .unset, .unset, .unset] [(.int (fl &&& (2 : Int32)))])) _
      refine XS.ifNo X0.here hx rfl (hb hby at_16) rfl ((if0 _ _).trans (feq hc6).1) ?_
      show Steps p.tables e below (s₁.setTop (mkF m 19 #[.val (.int fl), .val (.long cl), .second, .val (.int cc), .val (.int v3), .unset, .unset, .unset, .unset, .unset, .unset, .unset, .unset, .unset, .unset, .unset] [])) _
      refine XS.iconst X0.here hx rfl (hb hby at_19) ?_
      show Steps p.tables e below (s₁.setTop (mkF m 20 #[.val (.int fl), .val (.long cl), .second, .val (.int cc), .val (.int v3), .unset, .unset, .unset, .unset, .unset, .unset, .unset, .unset, .unset, .unset, .unset] [(.int (1 : Int32))])) _
      refine XS.goto X0.here hx rfl (pc0 := 20) (pc' := 24) rfl (hb hby at_20) (by decide) (by decide) ?_
      exact kt
  have bv7 : v7 &&& 1 = v7 := by rw [hv7]; split <;> rfl
  have k9 : ∀ tq, Steps p.tables e below (s₁.setTop (mkF m 29 #[.val (.int fl), .val (.long cl), .second, .val (.int cc), .val (.int v3), .val (.int v7), .unset, .unset, .unset, .unset, .unset, .unset, .unset, .unset, .unset, .unset] [(.int (fl &&& (4 : Int32)))])) tq → Steps p.tables e below (s₁.setTop (entryFrame m #[(.int fl), (.long cl), (.int cc)] maxLocals)) tq := by
    intro tq kt
    refine k8 tq ?_
    show Steps p.tables e below (s₁.setTop (mkF m 24 #[.val (.int fl), .val (.long cl), .second, .val (.int cc), .val (.int v3), .unset, .unset, .unset, .unset, .unset, .unset, .unset, .unset, .unset, .unset, .unset] [(.int v7)])) _
    refine XS.istore X0.here hx rfl (hb hby at_24) rfl (l' := #[.val (.int fl), .val (.long cl), .second, .val (.int cc), .val (.int v3), .val (.int v7), .unset, .unset, .unset, .unset, .unset, .unset, .unset, .unset, .unset, .unset]) rfl ?_
    show Steps p.tables e below (s₁.setTop (mkF m 26 #[.val (.int fl), .val (.long cl), .second, .val (.int cc), .val (.int v3), .val (.int v7), .unset, .unset, .unset, .unset, .unset, .unset, .unset, .unset, .unset, .unset] [])) _
    refine XS.iloadN X0.here hx rfl (hb hby at_26) rfl ?_
    show Steps p.tables e below (s₁.setTop (mkF m 27 #[.val (.int fl), .val (.long cl), .second, .val (.int cc), .val (.int v3), .val (.int v7), .unset, .unset, .unset, .unset, .unset, .unset, .unset, .unset, .unset, .unset] [(.int fl)])) _
    refine XS.iconst X0.here hx rfl (hb hby at_27) ?_
    show Steps p.tables e below (s₁.setTop (mkF m 28 #[.val (.int fl), .val (.long cl), .second, .val (.int cc), .val (.int v3), .val (.int v7), .unset, .unset, .unset, .unset, .unset, .unset, .unset, .unset, .unset, .unset] [(.int (4 : Int32)), (.int fl)])) _
    refine XS.iand X0.here hx rfl (hb hby at_28) rfl ?_
    exact kt
  obtain ⟨v11, hv11⟩ : ∃ z : Int32, z = if (fl &&& (4 : Int32)) = (0 : Int32) then (0 : Int32) else (1 : Int32) := ⟨_, rfl⟩
  have k12 : ∀ tq, Steps p.tables e below (s₁.setTop (mkF m 37 #[.val (.int fl), .val (.long cl), .second, .val (.int cc), .val (.int v3), .val (.int v7), .unset, .unset, .unset, .unset, .unset, .unset, .unset, .unset, .unset, .unset] [(.int v11)])) tq → Steps p.tables e below (s₁.setTop (entryFrame m #[(.int fl), (.long cl), (.int cc)] maxLocals)) tq := by
    intro tq kt
    by_cases hc10 : (fl &&& (4 : Int32)) = (0 : Int32)
    · rw [if_pos hc10] at hv11
      subst hv11
      refine k9 tq ?_
      show Steps p.tables e below (s₁.setTop (mkF m 29 #[.val (.int fl), .val (.long cl), .second, .val (.int cc), .val (.int v3), .val (.int v7), .unset, .unset, .unset, .unset, .unset, .unset, .unset, .unset, .unset, .unset] [(.int (fl &&& (4 : Int32)))])) _
      refine XS.ifYes X0.here hx rfl (pc0 := 29) (pc' := 36) rfl (hb hby at_29) rfl ((if0 _ _).trans (teq hc10).1) (by decide) (by decide) ?_
      show Steps p.tables e below (s₁.setTop (mkF m 36 #[.val (.int fl), .val (.long cl), .second, .val (.int cc), .val (.int v3), .val (.int v7), .unset, .unset, .unset, .unset, .unset, .unset, .unset, .unset, .unset, .unset] [])) _
      refine XS.iconst X0.here hx rfl (hb hby at_36) ?_
      exact kt
    · rw [if_neg hc10] at hv11
      subst hv11
      refine k9 tq ?_
      show Steps p.tables e below (s₁.setTop (mkF m 29 #[.val (.int fl), .val (.long cl), .second, .val (.int cc), .val (.int v3), .val (.int v7), .unset, .unset, .unset, .unset, .unset, .unset, .unset, .unset, .unset, .unset] [(.int (fl &&& (4 : Int32)))])) _
      refine XS.ifNo X0.here hx rfl (hb hby at_29) rfl ((if0 _ _).trans (feq hc10).1) ?_
      show Steps p.tables e below (s₁.setTop (mkF m 32 #[.val (.int fl), .val (.long cl), .second, .val (.int cc), .val (.int v3), .val (.int v7), .unset, .unset, .unset, .unset, .unset, .unset, .unset, .unset, .unset, .unset] [])) _
      refine XS.iconst X0.here hx rfl (hb hby at_32) ?_
      show Steps p.tables e below (s₁.setTop (mkF m 33 #[.val (.int fl), .val (.long cl), .second, .val (.int cc), .val (.int v3), .val (.int v7), .unset, .unset, .unset, .unset, .unset, .unset, .unset, .unset, .unset, .unset] [(.int (1 : Int32))])) _
      refine XS.goto X0.here hx rfl (pc0 := 33) (pc' := 37) rfl (hb hby at_33) (by decide) (by decide) ?_
      exact kt
  have bv11 : v11 &&& 1 = v11 := by rw [hv11]; split <;> rfl
  have k13 : ∀ tq, Steps p.tables e below (s₁.setTop (mkF m 43 #[.val (.int fl), .val (.long cl), .second, .val (.int cc), .val (.int v3), .val (.int v7), .val (.int v11), .unset, .unset, .unset, .unset, .unset, .unset, .unset, .unset, .unset] [(.int (fl &&& (8 : Int32)))])) tq → Steps p.tables e below (s₁.setTop (entryFrame m #[(.int fl), (.long cl), (.int cc)] maxLocals)) tq := by
    intro tq kt
    refine k12 tq ?_
    show Steps p.tables e below (s₁.setTop (mkF m 37 #[.val (.int fl), .val (.long cl), .second, .val (.int cc), .val (.int v3), .val (.int v7), .unset, .unset, .unset, .unset, .unset, .unset, .unset, .unset, .unset, .unset] [(.int v11)])) _
    refine XS.istore X0.here hx rfl (hb hby at_37) rfl (l' := #[.val (.int fl), .val (.long cl), .second, .val (.int cc), .val (.int v3), .val (.int v7), .val (.int v11), .unset, .unset, .unset, .unset, .unset, .unset, .unset, .unset, .unset]) rfl ?_
    show Steps p.tables e below (s₁.setTop (mkF m 39 #[.val (.int fl), .val (.long cl), .second, .val (.int cc), .val (.int v3), .val (.int v7), .val (.int v11), .unset, .unset, .unset, .unset, .unset, .unset, .unset, .unset, .unset] [])) _
    refine XS.iloadN X0.here hx rfl (hb hby at_39) rfl ?_
    show Steps p.tables e below (s₁.setTop (mkF m 40 #[.val (.int fl), .val (.long cl), .second, .val (.int cc), .val (.int v3), .val (.int v7), .val (.int v11), .unset, .unset, .unset, .unset, .unset, .unset, .unset, .unset, .unset] [(.int fl)])) _
    refine XS.bipush X0.here hx rfl (hb hby at_40) ?_
    show Steps p.tables e below (s₁.setTop (mkF m 42 #[.val (.int fl), .val (.long cl), .second, .val (.int cc), .val (.int v3), .val (.int v7), .val (.int v11), .unset, .unset, .unset, .unset, .unset, .unset, .unset, .unset, .unset] [(.int (8 : Int32)), (.int fl)])) _
    refine XS.iand X0.here hx rfl (hb hby at_42) rfl ?_
    exact kt
  obtain ⟨v15, hv15⟩ : ∃ z : Int32, z = if (fl &&& (8 : Int32)) = (0 : Int32) then (0 : Int32) else (1 : Int32) := ⟨_, rfl⟩
  have k16 : ∀ tq, Steps p.tables e below (s₁.setTop (mkF m 51 #[.val (.int fl), .val (.long cl), .second, .val (.int cc), .val (.int v3), .val (.int v7), .val (.int v11), .unset, .unset, .unset, .unset, .unset, .unset, .unset, .unset, .unset] [(.int v15)])) tq → Steps p.tables e below (s₁.setTop (entryFrame m #[(.int fl), (.long cl), (.int cc)] maxLocals)) tq := by
    intro tq kt
    by_cases hc14 : (fl &&& (8 : Int32)) = (0 : Int32)
    · rw [if_pos hc14] at hv15
      subst hv15
      refine k13 tq ?_
      show Steps p.tables e below (s₁.setTop (mkF m 43 #[.val (.int fl), .val (.long cl), .second, .val (.int cc), .val (.int v3), .val (.int v7), .val (.int v11), .unset, .unset, .unset, .unset, .unset, .unset, .unset, .unset, .unset] [(.int (fl &&& (8 : Int32)))])) _
      refine XS.ifYes X0.here hx rfl (pc0 := 43) (pc' := 50) rfl (hb hby at_43) rfl ((if0 _ _).trans (teq hc14).1) (by decide) (by decide) ?_
      show Steps p.tables e below (s₁.setTop (mkF m 50 #[.val (.int fl), .val (.long cl), .second, .val (.int cc), .val (.int v3), .val (.int v7), .val (.int v11), .unset, .unset, .unset, .unset, .unset, .unset, .unset, .unset, .unset] [])) _
      refine XS.iconst X0.here hx rfl (hb hby at_50) ?_
      exact kt
    · rw [if_neg hc14] at hv15
      subst hv15
      refine k13 tq ?_
      show Steps p.tables e below (s₁.setTop (mkF m 43 #[.val (.int fl), .val (.long cl), .second, .val (.int cc), .val (.int v3), .val (.int v7), .val (.int v11), .unset, .unset, .unset, .unset, .unset, .unset, .unset, .unset, .unset] [(.int (fl &&& (8 : Int32)))])) _
      refine XS.ifNo X0.here hx rfl (hb hby at_43) rfl ((if0 _ _).trans (feq hc14).1) ?_
      show Steps p.tables e below (s₁.setTop (mkF m 46 #[.val (.int fl), .val (.long cl), .second, .val (.int cc), .val (.int v3), .val (.int v7), .val (.int v11), .unset, .unset, .unset, .unset, .unset, .unset, .unset, .unset, .unset] [])) _
      refine XS.iconst X0.here hx rfl (hb hby at_46) ?_
      show Steps p.tables e below (s₁.setTop (mkF m 47 #[.val (.int fl), .val (.long cl), .second, .val (.int cc), .val (.int v3), .val (.int v7), .val (.int v11), .unset, .unset, .unset, .unset, .unset, .unset, .unset, .unset, .unset] [(.int (1 : Int32))])) _
      refine XS.goto X0.here hx rfl (pc0 := 47) (pc' := 51) rfl (hb hby at_47) (by decide) (by decide) ?_
      exact kt
  have bv15 : v15 &&& 1 = v15 := by rw [hv15]; split <;> rfl
  have k17 : ∀ tq, Steps p.tables e below (s₁.setTop (mkF m 57 #[.val (.int fl), .val (.long cl), .second, .val (.int cc), .val (.int v3), .val (.int v7), .val (.int v11), .val (.int v15), .unset, .unset, .unset, .unset, .unset, .unset, .unset, .unset] [(.int (fl &&& (16 : Int32)))])) tq → Steps p.tables e below (s₁.setTop (entryFrame m #[(.int fl), (.long cl), (.int cc)] maxLocals)) tq := by
    intro tq kt
    refine k16 tq ?_
    show Steps p.tables e below (s₁.setTop (mkF m 51 #[.val (.int fl), .val (.long cl), .second, .val (.int cc), .val (.int v3), .val (.int v7), .val (.int v11), .unset, .unset, .unset, .unset, .unset, .unset, .unset, .unset, .unset] [(.int v15)])) _
    refine XS.istore X0.here hx rfl (hb hby at_51) rfl (l' := #[.val (.int fl), .val (.long cl), .second, .val (.int cc), .val (.int v3), .val (.int v7), .val (.int v11), .val (.int v15), .unset, .unset, .unset, .unset, .unset, .unset, .unset, .unset]) rfl ?_
    show Steps p.tables e below (s₁.setTop (mkF m 53 #[.val (.int fl), .val (.long cl), .second, .val (.int cc), .val (.int v3), .val (.int v7), .val (.int v11), .val (.int v15), .unset, .unset, .unset, .unset, .unset, .unset, .unset, .unset] [])) _
    refine XS.iloadN X0.here hx rfl (hb hby at_53) rfl ?_
    show Steps p.tables e below (s₁.setTop (mkF m 54 #[.val (.int fl), .val (.long cl), .second, .val (.int cc), .val (.int v3), .val (.int v7), .val (.int v11), .val (.int v15), .unset, .unset, .unset, .unset, .unset, .unset, .unset, .unset] [(.int fl)])) _
    refine XS.bipush X0.here hx rfl (hb hby at_54) ?_
    show Steps p.tables e below (s₁.setTop (mkF m 56 #[.val (.int fl), .val (.long cl), .second, .val (.int cc), .val (.int v3), .val (.int v7), .val (.int v11), .val (.int v15), .unset, .unset, .unset, .unset, .unset, .unset, .unset, .unset] [(.int (16 : Int32)), (.int fl)])) _
    refine XS.iand X0.here hx rfl (hb hby at_56) rfl ?_
    exact kt
  obtain ⟨v19, hv19⟩ : ∃ z : Int32, z = if (fl &&& (16 : Int32)) = (0 : Int32) then (0 : Int32) else (1 : Int32) := ⟨_, rfl⟩
  have k20 : ∀ tq, Steps p.tables e below (s₁.setTop (mkF m 65 #[.val (.int fl), .val (.long cl), .second, .val (.int cc), .val (.int v3), .val (.int v7), .val (.int v11), .val (.int v15), .unset, .unset, .unset, .unset, .unset, .unset, .unset, .unset] [(.int v19)])) tq → Steps p.tables e below (s₁.setTop (entryFrame m #[(.int fl), (.long cl), (.int cc)] maxLocals)) tq := by
    intro tq kt
    by_cases hc18 : (fl &&& (16 : Int32)) = (0 : Int32)
    · rw [if_pos hc18] at hv19
      subst hv19
      refine k17 tq ?_
      show Steps p.tables e below (s₁.setTop (mkF m 57 #[.val (.int fl), .val (.long cl), .second, .val (.int cc), .val (.int v3), .val (.int v7), .val (.int v11), .val (.int v15), .unset, .unset, .unset, .unset, .unset, .unset, .unset, .unset] [(.int (fl &&& (16 : Int32)))])) _
      refine XS.ifYes X0.here hx rfl (pc0 := 57) (pc' := 64) rfl (hb hby at_57) rfl ((if0 _ _).trans (teq hc18).1) (by decide) (by decide) ?_
      show Steps p.tables e below (s₁.setTop (mkF m 64 #[.val (.int fl), .val (.long cl), .second, .val (.int cc), .val (.int v3), .val (.int v7), .val (.int v11), .val (.int v15), .unset, .unset, .unset, .unset, .unset, .unset, .unset, .unset] [])) _
      refine XS.iconst X0.here hx rfl (hb hby at_64) ?_
      exact kt
    · rw [if_neg hc18] at hv19
      subst hv19
      refine k17 tq ?_
      show Steps p.tables e below (s₁.setTop (mkF m 57 #[.val (.int fl), .val (.long cl), .second, .val (.int cc), .val (.int v3), .val (.int v7), .val (.int v11), .val (.int v15), .unset, .unset, .unset, .unset, .unset, .unset, .unset, .unset] [(.int (fl &&& (16 : Int32)))])) _
      refine XS.ifNo X0.here hx rfl (hb hby at_57) rfl ((if0 _ _).trans (feq hc18).1) ?_
      show Steps p.tables e below (s₁.setTop (mkF m 60 #[.val (.int fl), .val (.long cl), .second, .val (.int cc), .val (.int v3), .val (.int v7), .val (.int v11), .val (.int v15), .unset, .unset, .unset, .unset, .unset, .unset, .unset, .unset] [])) _
      refine XS.iconst X0.here hx rfl (hb hby at_60) ?_
      show Steps p.tables e below (s₁.setTop (mkF m 61 #[.val (.int fl), .val (.long cl), .second, .val (.int cc), .val (.int v3), .val (.int v7), .val (.int v11), .val (.int v15), .unset, .unset, .unset, .unset, .unset, .unset, .unset, .unset] [(.int (1 : Int32))])) _
      refine XS.goto X0.here hx rfl (pc0 := 61) (pc' := 65) rfl (hb hby at_61) (by decide) (by decide) ?_
      exact kt
  have bv19 : v19 &&& 1 = v19 := by rw [hv19]; split <;> rfl
  have k21 : ∀ tq, Steps p.tables e below (s₁.setTop (mkF m 71 #[.val (.int fl), .val (.long cl), .second, .val (.int cc), .val (.int v3), .val (.int v7), .val (.int v11), .val (.int v15), .val (.int v19), .unset, .unset, .unset, .unset, .unset, .unset, .unset] [(.int (fl &&& (32 : Int32)))])) tq → Steps p.tables e below (s₁.setTop (entryFrame m #[(.int fl), (.long cl), (.int cc)] maxLocals)) tq := by
    intro tq kt
    refine k20 tq ?_
    show Steps p.tables e below (s₁.setTop (mkF m 65 #[.val (.int fl), .val (.long cl), .second, .val (.int cc), .val (.int v3), .val (.int v7), .val (.int v11), .val (.int v15), .unset, .unset, .unset, .unset, .unset, .unset, .unset, .unset] [(.int v19)])) _
    refine XS.istore X0.here hx rfl (hb hby at_65) rfl (l' := #[.val (.int fl), .val (.long cl), .second, .val (.int cc), .val (.int v3), .val (.int v7), .val (.int v11), .val (.int v15), .val (.int v19), .unset, .unset, .unset, .unset, .unset, .unset, .unset]) rfl ?_
    show Steps p.tables e below (s₁.setTop (mkF m 67 #[.val (.int fl), .val (.long cl), .second, .val (.int cc), .val (.int v3), .val (.int v7), .val (.int v11), .val (.int v15), .val (.int v19), .unset, .unset, .unset, .unset, .unset, .unset, .unset] [])) _
    refine XS.iloadN X0.here hx rfl (hb hby at_67) rfl ?_
    show Steps p.tables e below (s₁.setTop (mkF m 68 #[.val (.int fl), .val (.long cl), .second, .val (.int cc), .val (.int v3), .val (.int v7), .val (.int v11), .val (.int v15), .val (.int v19), .unset, .unset, .unset, .unset, .unset, .unset, .unset] [(.int fl)])) _
    refine XS.bipush X0.here hx rfl (hb hby at_68) ?_
    show Steps p.tables e below (s₁.setTop (mkF m 70 #[.val (.int fl), .val (.long cl), .second, .val (.int cc), .val (.int v3), .val (.int v7), .val (.int v11), .val (.int v15), .val (.int v19), .unset, .unset, .unset, .unset, .unset, .unset, .unset] [(.int (32 : Int32)), (.int fl)])) _
    refine XS.iand X0.here hx rfl (hb hby at_70) rfl ?_
    exact kt
  obtain ⟨v23, hv23⟩ : ∃ z : Int32, z = if (fl &&& (32 : Int32)) = (0 : Int32) then (0 : Int32) else (1 : Int32) := ⟨_, rfl⟩
  have k24 : ∀ tq, Steps p.tables e below (s₁.setTop (mkF m 79 #[.val (.int fl), .val (.long cl), .second, .val (.int cc), .val (.int v3), .val (.int v7), .val (.int v11), .val (.int v15), .val (.int v19), .unset, .unset, .unset, .unset, .unset, .unset, .unset] [(.int v23)])) tq → Steps p.tables e below (s₁.setTop (entryFrame m #[(.int fl), (.long cl), (.int cc)] maxLocals)) tq := by
    intro tq kt
    by_cases hc22 : (fl &&& (32 : Int32)) = (0 : Int32)
    · rw [if_pos hc22] at hv23
      subst hv23
      refine k21 tq ?_
      show Steps p.tables e below (s₁.setTop (mkF m 71 #[.val (.int fl), .val (.long cl), .second, .val (.int cc), .val (.int v3), .val (.int v7), .val (.int v11), .val (.int v15), .val (.int v19), .unset, .unset, .unset, .unset, .unset, .unset, .unset] [(.int (fl &&& (32 : Int32)))])) _
      refine XS.ifYes X0.here hx rfl (pc0 := 71) (pc' := 78) rfl (hb hby at_71) rfl ((if0 _ _).trans (teq hc22).1) (by decide) (by decide) ?_
      show Steps p.tables e below (s₁.setTop (mkF m 78 #[.val (.int fl), .val (.long cl), .second, .val (.int cc), .val (.int v3), .val (.int v7), .val (.int v11), .val (.int v15), .val (.int v19), .unset, .unset, .unset, .unset, .unset, .unset, .unset] [])) _
      refine XS.iconst X0.here hx rfl (hb hby at_78) ?_
      exact kt
    · rw [if_neg hc22] at hv23
      subst hv23
      refine k21 tq ?_
      show Steps p.tables e below (s₁.setTop (mkF m 71 #[.val (.int fl), .val (.long cl), .second, .val (.int cc), .val (.int v3), .val (.int v7), .val (.int v11), .val (.int v15), .val (.int v19), .unset, .unset, .unset, .unset, .unset, .unset, .unset] [(.int (fl &&& (32 : Int32)))])) _
      refine XS.ifNo X0.here hx rfl (hb hby at_71) rfl ((if0 _ _).trans (feq hc22).1) ?_
      show Steps p.tables e below (s₁.setTop (mkF m 74 #[.val (.int fl), .val (.long cl), .second, .val (.int cc), .val (.int v3), .val (.int v7), .val (.int v11), .val (.int v15), .val (.int v19), .unset, .unset, .unset, .unset, .unset, .unset, .unset] [])) _
      refine XS.iconst X0.here hx rfl (hb hby at_74) ?_
      show Steps p.tables e below (s₁.setTop (mkF m 75 #[.val (.int fl), .val (.long cl), .second, .val (.int cc), .val (.int v3), .val (.int v7), .val (.int v11), .val (.int v15), .val (.int v19), .unset, .unset, .unset, .unset, .unset, .unset, .unset] [(.int (1 : Int32))])) _
      refine XS.goto X0.here hx rfl (pc0 := 75) (pc' := 79) rfl (hb hby at_75) (by decide) (by decide) ?_
      exact kt
  have bv23 : v23 &&& 1 = v23 := by rw [hv23]; split <;> rfl
  obtain ⟨_, _, ⟨T25, L25, k25, n25⟩, -, X25, ⟨Lc25, hQ25, l25, y25, z25⟩, st25⟩ := Jvm.LawKit.callS X0 hx (y := (⟨"java/lang/String", "valueOf", "(C)Ljava/lang/String;"⟩ : MethodName)) hown (mvT hZ (hw _ (List.mem_of_getElem? (i := 0) rfl))) (mvT hZ (hw _ (List.mem_of_getElem? (i := 1) rfl))) (mvT hZ (hw _ (List.mem_of_getElem? (i := 2) rfl))) (mvT hZ (hw _ (List.mem_of_getElem? (i := 3) rfl))) (by decide) (backOf (W := 0) (rm1 l Z a0 hw [] ((cc &&& (255 : Int32)).toUInt32.toUInt16.toUInt32.toInt32) w h0 n0 Z0 S0 hw0 (by rw [i2c_mask]; exact own_byte _)) hZ (hw _ (List.mem_of_getElem? (i := 3) rfl)) (hw _ (List.mem_of_getElem? (i := 2) rfl)) (by decide) (by decide)) (g := (mkF m 87 #[.val (.int fl), .val (.long cl), .second, .val (.int cc), .val (.int v3), .val (.int v7), .val (.int v11), .val (.int v15), .val (.int v19), .val (.int v23), .unset, .unset, .unset, .unset, .unset, .unset] [(.int ((cc &&& (255 : Int32)).toUInt32.toUInt16.toUInt32.toInt32))])) rfl (by rw [hml]; rfl) (argsL := [(.int ((cc &&& (255 : Int32)).toUInt32.toUInt16.toUInt32.toInt32))]) (rest := []) (lenOf pd_0 rfl) rfl (by show 2 * 0 + _ ≤ _; exact Nat.le_of_eq rfl) (hb hby at_87) (fun _ _ => ⟨rfl, e0, (by decide : 0 + 2 ≤ _), (by decide : 0 + 5 ≤ _)⟩)
  dsimp only [Pt.U, Pt.locs, Pt.cells, Pt.slots] at X25 l25 y25 z25 st25 hQ25
  subst l25 y25 z25
  obtain ⟨b25, rfl, N25q, K25, gb25, Es25⟩ := hQ25
  have N25 := Fr.app N0 N25q
  have g_b25 : n0 ≤ b25 := Nat.le_trans Z0 gb25
  have sz_b25 : h0.size ≤ b25 := Nat.le_trans (Keep.refl h0 []).1 gb25
  have f26 := own_sta_keep S0 K25
  have z27 := Nat.le_trans Z0 K25.1
  have kp28 := Keep.trans (Keep.refl h0 []) K25 all0
  obtain ⟨_, _, ⟨T29, L29, k29, n29⟩, -, X29, ⟨Lc29, hQ29, l29, y29, z29⟩, st29⟩ := Jvm.LawKit.callS X25 hx (y := (⟨"java/lang/String", "valueOf", "(C)Ljava/lang/String;"⟩ : MethodName)) hown (mvT hZ (hw _ (List.mem_of_getElem? (i := 0) rfl))) (mvT hZ (hw _ (List.mem_of_getElem? (i := 1) rfl))) (mvT hZ (hw _ (List.mem_of_getElem? (i := 2) rfl))) (mvT hZ (hw _ (List.mem_of_getElem? (i := 3) rfl))) (by decide) (backOf (W := 0) (rm1 l Z a0 hw [] ((((cc.toUInt32 >>> ((8 : Int32) &&& 31).toUInt32).toInt32) &&& (255 : Int32)).toUInt32.toUInt16.toUInt32.toInt32) w T25.heap n0 z27 f26 hw0 (by rw [i2c_mask]; exact own_byte _)) hZ (hw _ (List.mem_of_getElem? (i := 3) rfl)) (hw _ (List.mem_of_getElem? (i := 2) rfl)) (by decide) (by decide)) (g := (mkF m 101 #[.val (.int fl), .val (.long cl), .second, .val (.int cc), .val (.int v3), .val (.int v7), .val (.int v11), .val (.int v15), .val (.int v19), .val (.int v23), .val (.ref b25), .unset, .unset, .unset, .unset, .unset] [(.int ((((cc.toUInt32 >>> ((8 : Int32) &&& 31).toUInt32).toInt32) &&& (255 : Int32)).toUInt32.toUInt16.toUInt32.toInt32))])) rfl (by rw [hml]; rfl) (argsL := [(.int ((((cc.toUInt32 >>> ((8 : Int32) &&& 31).toUInt32).toInt32) &&& (255 : Int32)).toUInt32.toUInt16.toUInt32.toInt32))]) (rest := []) (lenOf pd_0 rfl) rfl (by show 2 * 0 + _ ≤ _; exact Nat.le_of_eq rfl) (hb hby at_101) (fun _ _ => ⟨rfl, rfl, (by decide : 2 + 2 ≤ _), (by decide : 5 + 5 ≤ _)⟩)
  dsimp only [Pt.U, Pt.locs, Pt.cells, Pt.slots] at X29 l29 y29 z29 st29 hQ29
  subst l29 y29 z29
  obtain ⟨b29, rfl, N29q, K29, gb29, Es29⟩ := hQ29
  have N29 := Fr.app N25 N29q
  have ne_b25_b29 : b25 ≠ b29 := Nat.ne_of_lt (Nat.lt_of_lt_of_le Es25.lt gb29)
  have g_b29 : n0 ≤ b29 := Nat.le_trans z27 gb29
  have sz_b29 : h0.size ≤ b29 := Nat.le_trans kp28.1 gb29
  have f30 := own_sta_keep f26 K29
  have f31 := Es25.keep K29
  have z32 := Nat.le_trans z27 K29.1
  have kp33 := Keep.trans kp28 K29 all0
  have k34 : ∀ tq, Steps p.tables e below (T29.setTop (mkF m 108 #[.val (.int fl), .val (.long cl), .second, .val (.int cc), .val (.int v3), .val (.int v7), .val (.int v11), .val (.int v15), .val (.int v19), .val (.int v23), .val (.ref b25), .val (.ref b29), .unset, .unset, .unset, .unset] [(.int v19)])) tq → Steps p.tables e below (s₁.setTop (entryFrame m #[(.int fl), (.long cl), (.int cc)] maxLocals)) tq := by
    intro tq kt
    refine k24 tq ?_
    show Steps p.tables e below (s₁.setTop (mkF m 79 #[.val (.int fl), .val (.long cl), .second, .val (.int cc), .val (.int v3), .val (.int v7), .val (.int v11), .val (.int v15), .val (.int v19), .unset, .unset, .unset, .unset, .unset, .unset, .unset] [(.int v23)])) _
    refine XS.istore X0.here hx rfl (hb hby at_79) rfl (l' := #[.val (.int fl), .val (.long cl), .second, .val (.int cc), .val (.int v3), .val (.int v7), .val (.int v11), .val (.int v15), .val (.int v19), .val (.int v23), .unset, .unset, .unset, .unset, .unset, .unset]) rfl ?_
    show Steps p.tables e below (s₁.setTop (mkF m 81 #[.val (.int fl), .val (.long cl), .second, .val (.int cc), .val (.int v3), .val (.int v7), .val (.int v11), .val (.int v15), .val (.int v19), .val (.int v23), .unset, .unset, .unset, .unset, .unset, .unset] [])) _
    refine XS.iloadN X0.here hx rfl (hb hby at_81) rfl ?_
    show Steps p.tables e below (s₁.setTop (mkF m 82 #[.val (.int fl), .val (.long cl), .second, .val (.int cc), .val (.int v3), .val (.int v7), .val (.int v11), .val (.int v15), .val (.int v19), .val (.int v23), .unset, .unset, .unset, .unset, .unset, .unset] [(.int cc)])) _
    refine XS.sipush X0.here hx rfl (hb hby at_82) ?_
    show Steps p.tables e below (s₁.setTop (mkF m 85 #[.val (.int fl), .val (.long cl), .second, .val (.int cc), .val (.int v3), .val (.int v7), .val (.int v11), .val (.int v15), .val (.int v19), .val (.int v23), .unset, .unset, .unset, .unset, .unset, .unset] [(.int (255 : Int32)), (.int cc)])) _
    refine XS.iand X0.here hx rfl (hb hby at_85) rfl ?_
    show Steps p.tables e below (s₁.setTop (mkF m 86 #[.val (.int fl), .val (.long cl), .second, .val (.int cc), .val (.int v3), .val (.int v7), .val (.int v11), .val (.int v15), .val (.int v19), .val (.int v23), .unset, .unset, .unset, .unset, .unset, .unset] [(.int (cc &&& (255 : Int32)))])) _
    refine XS.i2c X0.here hx rfl (hb hby at_86) rfl ?_
    show Steps p.tables e below (s₁.setTop (mkF m 87 #[.val (.int fl), .val (.long cl), .second, .val (.int cc), .val (.int v3), .val (.int v7), .val (.int v11), .val (.int v15), .val (.int v19), .val (.int v23), .unset, .unset, .unset, .unset, .unset, .unset] [(.int ((cc &&& (255 : Int32)).toUInt32.toUInt16.toUInt32.toInt32))])) _
    refine st25 _ ?_
    show Steps p.tables e below (T25.setTop (mkF m 90 #[.val (.int fl), .val (.long cl), .second, .val (.int cc), .val (.int v3), .val (.int v7), .val (.int v11), .val (.int v15), .val (.int v19), .val (.int v23), .unset, .unset, .unset, .unset, .unset, .unset] [(.ref b25)])) _
    refine XS.astore X25.here hx rfl (hb hby at_90) rfl rfl (l' := #[.val (.int fl), .val (.long cl), .second, .val (.int cc), .val (.int v3), .val (.int v7), .val (.int v11), .val (.int v15), .val (.int v19), .val (.int v23), .val (.ref b25), .unset, .unset, .unset, .unset, .unset]) rfl ?_
    show Steps p.tables e below (T25.setTop (mkF m 92 #[.val (.int fl), .val (.long cl), .second, .val (.int cc), .val (.int v3), .val (.int v7), .val (.int v11), .val (.int v15), .val (.int v19), .val (.int v23), .val (.ref b25), .unset, .unset, .unset, .unset, .unset] [])) _
    refine XS.iloadN X25.here hx rfl (hb hby at_92) rfl ?_
    show Steps p.tables e below (T25.setTop (mkF m 93 #[.val (.int fl), .val (.long cl), .second, .val (.int cc), .val (.int v3), .val (.int v7), .val (.int v11), .val (.int v15), .val (.int v19), .val (.int v23), .val (.ref b25), .unset, .unset, .unset, .unset, .unset] [(.int cc)])) _
    refine XS.bipush X25.here hx rfl (hb hby at_93) ?_
    show Steps p.tables e below (T25.setTop (mkF m 95 #[.val (.int fl), .val (.long cl), .second, .val (.int cc), .val (.int v3), .val (.int v7), .val (.int v11), .val (.int v15), .val (.int v19), .val (.int v23), .val (.ref b25), .unset, .unset, .unset, .unset, .unset] [(.int (8 : Int32)), (.int cc)])) _
    refine XS.iushr X25.here hx rfl (hb hby at_95) rfl ?_
    show Steps p.tables e below (T25.setTop (mkF m 96 #[.val (.int fl), .val (.long cl), .second, .val (.int cc), .val (.int v3), .val (.int v7), .val (.int v11), .val (.int v15), .val (.int v19), .val (.int v23), .val (.ref b25), .unset, .unset, .unset, .unset, .unset] [(.int ((cc.toUInt32 >>> ((8 : Int32) &&& 31).toUInt32).toInt32))])) _
    refine XS.sipush X25.here hx rfl (hb hby at_96) ?_
    show Steps p.tables e below (T25.setTop (mkF m 99 #[.val (.int fl), .val (.long cl), .second, .val (.int cc), .val (.int v3), .val (.int v7), .val (.int v11), .val (.int v15), .val (.int v19), .val (.int v23), .val (.ref b25), .unset, .unset, .unset, .unset, .unset] [(.int (255 : Int32)), (.int ((cc.toUInt32 >>> ((8 : Int32) &&& 31).toUInt32).toInt32))])) _
    refine XS.iand X25.here hx rfl (hb hby at_99) rfl ?_
    show Steps p.tables e below (T25.setTop (mkF m 100 #[.val (.int fl), .val (.long cl), .second, .val (.int cc), .val (.int v3), .val (.int v7), .val (.int v11), .val (.int v15), .val (.int v19), .val (.int v23), .val (.ref b25), .unset, .unset, .unset, .unset, .unset] [(.int (((cc.toUInt32 >>> ((8 : Int32) &&& 31).toUInt32).toInt32) &&& (255 : Int32)))])) _
    refine XS.i2c X25.here hx rfl (hb hby at_100) rfl ?_
    show Steps p.tables e below (T25.setTop (mkF m 101 #[.val (.int fl), .val (.long cl), .second, .val (.int cc), .val (.int v3), .val (.int v7), .val (.int v11), .val (.int v15), .val (.int v19), .val (.int v23), .val (.ref b25), .unset, .unset, .unset, .unset, .unset] [(.int ((((cc.toUInt32 >>> ((8 : Int32) &&& 31).toUInt32).toInt32) &&& (255 : Int32)).toUInt32.toUInt16.toUInt32.toInt32))])) _
    refine st29 _ ?_
    show Steps p.tables e below (T29.setTop (mkF m 104 #[.val (.int fl), .val (.long cl), .second, .val (.int cc), .val (.int v3), .val (.int v7), .val (.int v11), .val (.int v15), .val (.int v19), .val (.int v23), .val (.ref b25), .unset, .unset, .unset, .unset, .unset] [(.ref b29)])) _
    refine XS.astore X29.here hx rfl (hb hby at_104) rfl rfl (l' := #[.val (.int fl), .val (.long cl), .second, .val (.int cc), .val (.int v3), .val (.int v7), .val (.int v11), .val (.int v15), .val (.int v19), .val (.int v23), .val (.ref b25), .val (.ref b29), .unset, .unset, .unset, .unset]) rfl ?_
    show Steps p.tables e below (T29.setTop (mkF m 106 #[.val (.int fl), .val (.long cl), .second, .val (.int cc), .val (.int v3), .val (.int v7), .val (.int v11), .val (.int v15), .val (.int v19), .val (.int v23), .val (.ref b25), .val (.ref b29), .unset, .unset, .unset, .unset] [])) _
    refine XS.iload X29.here hx rfl (hb hby at_106) rfl ?_
    exact kt
  by_cases hc35 : v19 = (0 : Int32)
  · have k36 : ∀ tq, Steps p.tables e below (T29.setTop (mkF m 131 #[.val (.int fl), .val (.long cl), .second, .val (.int cc), .val (.int v3), .val (.int v7), .val (.int v11), .val (.int v15), .val (.int v19), .val (.int v23), .val (.ref b25), .val (.ref b29), .val .null, .unset, .unset, .unset] [(.int v23)])) tq → Steps p.tables e below (s₁.setTop (entryFrame m #[(.int fl), (.long cl), (.int cc)] maxLocals)) tq := by
      intro tq kt
      refine k34 tq ?_
      show Steps p.tables e below (T29.setTop (mkF m 108 #[.val (.int fl), .val (.long cl), .second, .val (.int cc), .val (.int v3), .val (.int v7), .val (.int v11), .val (.int v15), .val (.int v19), .val (.int v23), .val (.ref b25), .val (.ref b29), .unset, .unset, .unset, .unset] [(.int v19)])) _
      refine XS.ifYes X29.here hx rfl (pc0 := 108) (pc' := 126) rfl (hb hby at_108) rfl ((if0 _ _).trans (teq hc35).1) (by decide) (by decide) ?_
      show Steps p.tables e below (T29.setTop (mkF m 126 #[.val (.int fl), .val (.long cl), .second, .val (.int cc), .val (.int v3), .val (.int v7), .val (.int v11), .val (.int v15), .val (.int v19), .val (.int v23), .val (.ref b25), .val (.ref b29), .unset, .unset, .unset, .unset] [])) _
      refine XS.aconstNull X29.here hx rfl (hb hby at_126) ?_
      show Steps p.tables e below (T29.setTop (mkF m 127 #[.val (.int fl), .val (.long cl), .second, .val (.int cc), .val (.int v3), .val (.int v7), .val (.int v11), .val (.int v15), .val (.int v19), .val (.int v23), .val (.ref b25), .val (.ref b29), .unset, .unset, .unset, .unset] [.null])) _
      refine XS.astore X29.here hx rfl (hb hby at_127) rfl rfl (l' := #[.val (.int fl), .val (.long cl), .second, .val (.int cc), .val (.int v3), .val (.int v7), .val (.int v11), .val (.int v15), .val (.int v19), .val (.int v23), .val (.ref b25), .val (.ref b29), .val .null, .unset, .unset, .unset]) rfl ?_
      show Steps p.tables e below (T29.setTop (mkF m 129 #[.val (.int fl), .val (.long cl), .second, .val (.int cc), .val (.int v3), .val (.int v7), .val (.int v11), .val (.int v15), .val (.int v19), .val (.int v23), .val (.ref b25), .val (.ref b29), .val .null, .unset, .unset, .unset] [])) _
      refine XS.iload X29.here hx rfl (hb hby at_129) rfl ?_
      exact kt
    by_cases hc37 : v23 = (0 : Int32)
    · obtain ⟨T38, h38, X38, e38, E38, A38, D38, U38, st38⟩ := newO X29 hx hZ hown (hw _ (List.mem_of_getElem? (i := 26) rfl)) (hw _ (List.mem_of_getElem? (i := 27) rfl)) (hw _ (List.mem_of_getElem? (i := 28) rfl)) rfl (g := (mkF m 143 #[.val (.int fl), .val (.long cl), .second, .val (.int cc), .val (.int v3), .val (.int v7), .val (.int v11), .val (.int v15), .val (.int v19), .val (.int v23), .val (.ref b25), .val (.ref b29), .val .null, .val .null, .unset, .unset] [])) rfl (hb hby at_143) (by decide) (by decide)
      obtain ⟨b38, g38⟩ : ∃ z, z = T29.heap.size := ⟨_, rfl⟩
      rw [← g38] at A38 D38 U38 st38
      have ne_b25_b38 : b25 ≠ b38 := Nat.ne_of_lt (Nat.lt_of_lt_of_le f31.lt (Nat.le_of_eq g38.symm))
      have ne_b29_b38 : b29 ≠ b38 := Nat.ne_of_lt (Nat.lt_of_lt_of_le Es29.lt (Nat.le_of_eq g38.symm))
      have g_b38 : n0 ≤ b38 := Nat.le_trans z32 (Nat.le_of_eq g38.symm)
      have sz_b38 : h0.size ≤ b38 := Nat.le_trans kp33.1 (Nat.le_of_eq g38.symm)
      have f39 := f30.ext E38
      have f40 := f31.ext E38
      have f41 := Es29.ext E38
      have z42 := Nat.le_trans z32 E38.1
      have kp43 := kp33.ext E38
      have F_method_b38 : Fld Z h38 b38 "com/example/hatchd/hatchd/server/RequestReader$Request" "method" "Ljava/lang/String;" .null := D38 (Or.inr (hw _ (List.mem_of_getElem? (i := 34) rfl))) (ty := (.object "java/lang/String")) (by decide)
      have F_path_b38 : Fld Z h38 b38 "com/example/hatchd/hatchd/server/RequestReader$Request" "path" "Ljava/lang/String;" .null := D38 (Or.inr (hw _ (List.mem_of_getElem? (i := 36) rfl))) (ty := (.object "java/lang/String")) (by decide)
      have F_query_b38 : Fld Z h38 b38 "com/example/hatchd/hatchd/server/RequestReader$Request" "query" "Ljava/lang/String;" .null := D38 (Or.inr (hw _ (List.mem_of_getElem? (i := 38) rfl))) (ty := (.object "java/lang/String")) (by decide)
      have F_http10_b38 : Fld Z h38 b38 "com/example/hatchd/hatchd/server/RequestReader$Request" "http10" "Z" (.int (0 : Int32)) := D38 (Or.inr (hw _ (List.mem_of_getElem? (i := 40) rfl))) (ty := .boolean) (by decide)
      have F_close_b38 : Fld Z h38 b38 "com/example/hatchd/hatchd/server/RequestReader$Request" "close" "Z" (.int (0 : Int32)) := D38 (Or.inr (hw _ (List.mem_of_getElem? (i := 42) rfl))) (ty := .boolean) (by decide)
      have F_chunked_b38 : Fld Z h38 b38 "com/example/hatchd/hatchd/server/RequestReader$Request" "chunked" "Z" (.int (0 : Int32)) := D38 (Or.inr (hw _ (List.mem_of_getElem? (i := 44) rfl))) (ty := .boolean) (by decide)
      have F_contentLength_b38 : Fld Z h38 b38 "com/example/hatchd/hatchd/server/RequestReader$Request" "contentLength" "J" (.long (0 : Int64)) := D38 (Or.inr (hw _ (List.mem_of_getElem? (i := 46) rfl))) (ty := .long) (by decide)
      have F_expectsContinue_b38 : Fld Z h38 b38 "com/example/hatchd/hatchd/server/RequestReader$Request" "expectsContinue" "Z" (.int (0 : Int32)) := D38 (Or.inr (hw _ (List.mem_of_getElem? (i := 48) rfl))) (ty := .boolean) (by decide)
      have F_body_b38 : Fld Z h38 b38 "com/example/hatchd/hatchd/server/RequestReader$Request" "body" "[B" .null := D38 (Or.inr (hw _ (List.mem_of_getElem? (i := 50) rfl))) (ty := (.array .byte)) (by decide)
      obtain ⟨_, _, ⟨T44, L44, k44, n44⟩, -, X44, ⟨Lc44, hQ44, l44, y44, z44⟩, st44⟩ := X38.specialBack hx (y := (⟨"com/example/hatchd/hatchd/server/RequestReader$Request", "<init>", "(Ljava/lang/String;Ljava/lang/String;Ljava/lang/String;ZZZJZ[B)V"⟩ : MethodName)) rfl hown (mvT hZ (hw _ (List.mem_of_getElem? (i := 29) rfl))) (mvT hZ (hw _ (List.mem_of_getElem? (i := 30) rfl))) (mvT hZ (hw _ (List.mem_of_getElem? (i := 31) rfl))) (by decide) (backOf (W := 1) (rm6 l Z a0 hw [] b38 b25 b29 v3 v7 v11 cl v15 h38 n0 z42 A38 F_method_b38 F_path_b38 F_query_b38 F_http10_b38 F_close_b38 F_chunked_b38 F_contentLength_b38 F_expectsContinue_b38 F_body_b38 g_b38) hZ (hw _ (List.mem_of_getElem? (i := 31) rfl)) (hw _ (List.mem_of_getElem? (i := 28) rfl)) (by decide) (by decide)) (g := (mkF m 164 #[.val (.int fl), .val (.long cl), .second, .val (.int cc), .val (.int v3), .val (.int v7), .val (.int v11), .val (.int v15), .val (.int v19), .val (.int v23), .val (.ref b25), .val (.ref b29), .val .null, .val .null, .unset, .unset] [.null, (.int v15), (.long cl), (.int v11), (.int v7), (.int v3), .null, (.ref b29), (.ref b25), (.ref b38), (.ref b38)])) rfl (by rw [hml]; rfl) (Steps.refl _) (a := b38) (argsL := [(.ref b25), (.ref b29), .null, (.int v3), (.int v7), (.int v11), (.long cl), (.int v15), .null]) (rest := [(.ref b38)]) (lenOf pd_5 rfl) rfl (by show 2 * 0 + _ ≤ _; exact Nat.le_of_eq rfl) (hb hby at_164) (fun _ _ => ⟨rfl, e38, (by decide : 5 + 0 ≤ _), (by decide : 19 + 0 ≤ _)⟩)
      dsimp only [Pt.U, Pt.locs, Pt.cells, Pt.slots] at X44 l44 y44 z44 st44 hQ44
      subst l44 y44 z44
      obtain ⟨rfl, N44q, K44, Eo44, Fh44, Fc44⟩ := hQ44
      have N44 := Fr.app N29 N44q
      have f45 := f40.keep K44
      have f46 := f41.keep K44
      have f47 := A38.keep K44
      have z48 := Nat.le_trans z42 K44.1
      have kp49 := Keep.trans kp43 K44 (allS (Or.inr sz_b38) all0)
      have k50 : ∀ tq, Steps p.tables e below (T44.setTop (mkF m 171 #[.val (.int fl), .val (.long cl), .second, .val (.int cc), .val (.int v3), .val (.int v7), .val (.int v11), .val (.int v15), .val (.int v19), .val (.int v23), .val (.ref b25), .val (.ref b29), .val .null, .val .null, .val (.ref b38), .unset] [(.int v3)])) tq → Steps p.tables e below (s₁.setTop (entryFrame m #[(.int fl), (.long cl), (.int cc)] maxLocals)) tq := by
        intro tq kt
        refine k36 tq ?_
        show Steps p.tables e below (T29.setTop (mkF m 131 #[.val (.int fl), .val (.long cl), .second, .val (.int cc), .val (.int v3), .val (.int v7), .val (.int v11), .val (.int v15), .val (.int v19), .val (.int v23), .val (.ref b25), .val (.ref b29), .val .null, .unset, .unset, .unset] [(.int v23)])) _
        refine XS.ifYes X29.here hx rfl (pc0 := 131) (pc' := 140) rfl (hb hby at_131) rfl ((if0 _ _).trans (teq hc37).1) (by decide) (by decide) ?_
        show Steps p.tables e below (T29.setTop (mkF m 140 #[.val (.int fl), .val (.long cl), .second, .val (.int cc), .val (.int v3), .val (.int v7), .val (.int v11), .val (.int v15), .val (.int v19), .val (.int v23), .val (.ref b25), .val (.ref b29), .val .null, .unset, .unset, .unset] [])) _
        refine XS.aconstNull X29.here hx rfl (hb hby at_140) ?_
        show Steps p.tables e below (T29.setTop (mkF m 141 #[.val (.int fl), .val (.long cl), .second, .val (.int cc), .val (.int v3), .val (.int v7), .val (.int v11), .val (.int v15), .val (.int v19), .val (.int v23), .val (.ref b25), .val (.ref b29), .val .null, .unset, .unset, .unset] [.null])) _
        refine XS.astore X29.here hx rfl (hb hby at_141) rfl rfl (l' := #[.val (.int fl), .val (.long cl), .second, .val (.int cc), .val (.int v3), .val (.int v7), .val (.int v11), .val (.int v15), .val (.int v19), .val (.int v23), .val (.ref b25), .val (.ref b29), .val .null, .val .null, .unset, .unset]) rfl ?_
        show Steps p.tables e below (T29.setTop (mkF m 143 #[.val (.int fl), .val (.long cl), .second, .val (.int cc), .val (.int v3), .val (.int v7), .val (.int v11), .val (.int v15), .val (.int v19), .val (.int v23), .val (.ref b25), .val (.ref b29), .val .null, .val .null, .unset, .unset] [])) _
        refine st38 _ ?_
        show Steps p.tables e below (T38.setTop (mkF m 146 #[.val (.int fl), .val (.long cl), .second, .val (.int cc), .val (.int v3), .val (.int v7), .val (.int v11), .val (.int v15), .val (.int v19), .val (.int v23), .val (.ref b25), .val (.ref b29), .val .null, .val .null, .unset, .unset] [(.ref b38)])) _
        refine XS.dup X38.here hx rfl (hb hby at_146) rfl rfl ?_
        show Steps p.tables e below (T38.setTop (mkF m 147 #[.val (.int fl), .val (.long cl), .second, .val (.int cc), .val (.int v3), .val (.int v7), .val (.int v11), .val (.int v15), .val (.int v19), .val (.int v23), .val (.ref b25), .val (.ref b29), .val .null, .val .null, .unset, .unset] [(.ref b38), (.ref b38)])) _
        refine XS.aload X38.here hx rfl (hb hby at_147) rfl rfl ?_
        show Steps p.tables e below (T38.setTop (mkF m 149 #[.val (.int fl), .val (.long cl), .second, .val (.int cc), .val (.int v3), .val (.int v7), .val (.int v11), .val (.int v15), .val (.int v19), .val (.int v23), .val (.ref b25), .val (.ref b29), .val .null, .val .null, .unset, .unset] [(.ref b25), (.ref b38), (.ref b38)])) _
        refine XS.aload X38.here hx rfl (hb hby at_149) rfl rfl ?_
        show Steps p.tables e below (T38.setTop (mkF m 151 #[.val (.int fl), .val (.long cl), .second, .val (.int cc), .val (.int v3), .val (.int v7), .val (.int v11), .val (.int v15), .val (.int v19), .val (.int v23), .val (.ref b25), .val (.ref b29), .val .null, .val .null, .unset, .unset] [(.ref b29), (.ref b25), (.ref b38), (.ref b38)])) _
        refine XS.aload X38.here hx rfl (hb hby at_151) rfl rfl ?_
        show Steps p.tables e below (T38.setTop (mkF m 153 #[.val (.int fl), .val (.long cl), .second, .val (.int cc), .val (.int v3), .val (.int v7), .val (.int v11), .val (.int v15), .val (.int v19), .val (.int v23), .val (.ref b25), .val (.ref b29), .val .null, .val .null, .unset, .unset] [.null, (.ref b29), (.ref b25), (.ref b38), (.ref b38)])) _
        refine XS.iload X38.here hx rfl (hb hby at_153) rfl ?_
        show Steps p.tables e below (T38.setTop (mkF m 155 #[.val (.int fl), .val (.long cl), .second, .val (.int cc), .val (.int v3), .val (.int v7), .val (.int v11), .val (.int v15), .val (.int v19), .val (.int v23), .val (.ref b25), .val (.ref b29), .val .null, .val .null, .unset, .unset] [(.int v3), .null, (.ref b29), (.ref b25), (.ref b38), (.ref b38)])) _
        refine XS.iload X38.here hx rfl (hb hby at_155) rfl ?_
        show Steps p.tables e below (T38.setTop (mkF m 157 #[.val (.int fl), .val (.long cl), .second, .val (.int cc), .val (.int v3), .val (.int v7), .val (.int v11), .val (.int v15), .val (.int v19), .val (.int v23), .val (.ref b25), .val (.ref b29), .val .null, .val .null, .unset, .unset] [(.int v7), (.int v3), .null, (.ref b29), (.ref b25), (.ref b38), (.ref b38)])) _
        refine XS.iload X38.here hx rfl (hb hby at_157) rfl ?_
        show Steps p.tables e below (T38.setTop (mkF m 159 #[.val (.int fl), .val (.long cl), .second, .val (.int cc), .val (.int v3), .val (.int v7), .val (.int v11), .val (.int v15), .val (.int v19), .val (.int v23), .val (.ref b25), .val (.ref b29), .val .null, .val .null, .unset, .unset] [(.int v11), (.int v7), (.int v3), .null, (.ref b29), (.ref b25), (.ref b38), (.ref b38)])) _
        refine XS.lloadN X38.here hx rfl (hb hby at_159) rfl ?_
        show Steps p.tables e below (T38.setTop (mkF m 160 #[.val (.int fl), .val (.long cl), .second, .val (.int cc), .val (.int v3), .val (.int v7), .val (.int v11), .val (.int v15), .val (.int v19), .val (.int v23), .val (.ref b25), .val (.ref b29), .val .null, .val .null, .unset, .unset] [(.long cl), (.int v11), (.int v7), (.int v3), .null, (.ref b29), (.ref b25), (.ref b38), (.ref b38)])) _
        refine XS.iload X38.here hx rfl (hb hby at_160) rfl ?_
        show Steps p.tables e below (T38.setTop (mkF m 162 #[.val (.int fl), .val (.long cl), .second, .val (.int cc), .val (.int v3), .val (.int v7), .val (.int v11), .val (.int v15), .val (.int v19), .val (.int v23), .val (.ref b25), .val (.ref b29), .val .null, .val .null, .unset, .unset] [(.int v15), (.long cl), (.int v11), (.int v7), (.int v3), .null, (.ref b29), (.ref b25), (.ref b38), (.ref b38)])) _
        refine XS.aload X38.here hx rfl (hb hby at_162) rfl rfl ?_
        show Steps p.tables e below (T38.setTop (mkF m 164 #[.val (.int fl), .val (.long cl), .second, .val (.int cc), .val (.int v3), .val (.int v7), .val (.int v11), .val (.int v15), .val (.int v19), .val (.int v23), .val (.ref b25), .val (.ref b29), .val .null, .val .null, .unset, .unset] [.null, (.int v15), (.long cl), (.int v11), (.int v7), (.int v3), .null, (.ref b29), (.ref b25), (.ref b38), (.ref b38)])) _
        refine st44.trans ?_
        show Steps p.tables e below (T44.setTop (mkF m 167 #[.val (.int fl), .val (.long cl), .second, .val (.int cc), .val (.int v3), .val (.int v7), .val (.int v11), .val (.int v15), .val (.int v19), .val (.int v23), .val (.ref b25), .val (.ref b29), .val .null, .val .null, .unset, .unset] [(.ref b38)])) _
        refine XS.astore X44.here hx rfl (hb hby at_167) rfl rfl (l' := #[.val (.int fl), .val (.long cl), .second, .val (.int cc), .val (.int v3), .val (.int v7), .val (.int v11), .val (.int v15), .val (.int v19), .val (.int v23), .val (.ref b25), .val (.ref b29), .val .null, .val .null, .val (.ref b38), .unset]) rfl ?_
        show Steps p.tables e below (T44.setTop (mkF m 169 #[.val (.int fl), .val (.long cl), .second, .val (.int cc), .val (.int v3), .val (.int v7), .val (.int v11), .val (.int v15), .val (.int v19), .val (.int v23), .val (.ref b25), .val (.ref b29), .val .null, .val .null, .val (.ref b38), .unset] [])) _
        refine XS.iload X44.here hx rfl (hb hby at_169) rfl ?_
        exact kt
      by_cases hc51 : v3 = (0 : Int32)
      · have k52 : ∀ tq, Steps p.tables e below (T44.setTop (mkF m 182 #[.val (.int fl), .val (.long cl), .second, .val (.int cc), .val (.int v3), .val (.int v7), .val (.int v11), .val (.int v15), .val (.int v19), .val (.int v23), .val (.ref b25), .val (.ref b29), .val .null, .val .null, .val (.ref b38), .unset] [(.int v7)])) tq → Steps p.tables e below (s₁.setTop (entryFrame m #[(.int fl), (.long cl), (.int cc)] maxLocals)) tq := by
          intro tq kt
          refine k50 tq ?_
          show Steps p.tables e below (T44.setTop (mkF m 171 #[.val (.int fl), .val (.long cl), .second, .val (.int cc), .val (.int v3), .val (.int v7), .val (.int v11), .val (.int v15), .val (.int v19), .val (.int v23), .val (.ref b25), .val (.ref b29), .val .null, .val .null, .val (.ref b38), .unset] [(.int v3)])) _
          refine XS.ifYes X44.here hx rfl (pc0 := 171) (pc' := 180) rfl (hb hby at_171) rfl ((if0 _ _).trans (teq hc51).1) (by decide) (by decide) ?_
          show Steps p.tables e below (T44.setTop (mkF m 180 #[.val (.int fl), .val (.long cl), .second, .val (.int cc), .val (.int v3), .val (.int v7), .val (.int v11), .val (.int v15), .val (.int v19), .val (.int v23), .val (.ref b25), .val (.ref b29), .val .null, .val .null, .val (.ref b38), .unset] [])) _
          refine XS.iload X44.here hx rfl (hb hby at_180) rfl ?_
          exact kt
        by_cases hc53 : v7 = (0 : Int32)
        · obtain ⟨cq54, kq54, q54a, q54b, q54c⟩ := isOf hZ rfl Eo44
          obtain ⟨_, _, ⟨T54, L54, k54, n54⟩, -, X54, ⟨Lc54, hQ54, l54, y54, z54⟩, st54⟩ := X44.virtualBack hx (y := (⟨"com/example/hatchd/hatchd/server/RequestReader$Request", "closes", "()Z"⟩ : MethodName)) (z := (⟨"com/example/hatchd/hatchd/server/RequestReader$Request", "closes", "()Z"⟩ : MethodName)) hown (mvT hZ (hw _ (List.mem_of_getElem? (i := 51) rfl))) (mvT hZ (hw _ (List.mem_of_getElem? (i := 52) rfl))) (notFace_of_selects (args := #[]) (mvT hZ (hw _ (List.mem_of_getElem? (i := 54) rfl)))) (mvT hZ (hw _ (List.mem_of_getElem? (i := 54) rfl))) (mvT hZ (hw _ (List.mem_of_getElem? (i := 53) rfl))) (by decide) (backOf (W := 0) (rm7 l Z a0 hw [] b38 (v7 &&& 1) (v3 &&& 1) T44.heap n0 z48 Fc44 Fh44) hZ (hw _ (List.mem_of_getElem? (i := 55) rfl)) (hw _ (List.mem_of_getElem? (i := 28) rfl)) (by decide) (by decide)) q54a q54c (g := (mkF m 196 #[.val (.int fl), .val (.long cl), .second, .val (.int cc), .val (.int v3), .val (.int v7), .val (.int v11), .val (.int v15), .val (.int v19), .val (.int v23), .val (.ref b25), .val (.ref b29), .val .null, .val .null, .val (.ref b38), .val (.int (0 : Int32))] [(.ref b38)])) rfl (by rw [hml]; rfl) (Steps.refl _) (argsL := []) (rest := []) (lenOf pd_6 rfl) rfl (by show 2 * 0 + _ ≤ _; exact Nat.le_of_eq rfl) (hb hby at_196) (fun _ _ => ⟨rfl, rfl, (by decide : 5 + 0 ≤ _), (by decide : 19 + 0 ≤ _)⟩)
          dsimp only [Pt.U, Pt.locs, Pt.cells, Pt.slots] at X54 l54 y54 z54 st54 hQ54
          subst l54 y54 z54
          obtain ⟨rfl, N54q, e54⟩ := hQ54
          have N54 := Fr.app N44 N54q
          obtain ⟨fs, hr, hrun, hended, hW, hsame⟩ := X54.leave (v := some (.int (1 : Int32))) (fun h => by rw [Bd.returns] at h; cases h)
          refine ⟨_, _, k52 _ ?_, hrun, hended, _, _, rfl, ?_, ⟨_, rfl⟩, hW, hsame.mono (by decide) (by decide)⟩
          · show Steps p.tables e below (T44.setTop (mkF m 182 #[.val (.int fl), .val (.long cl), .second, .val (.int cc), .val (.int v3), .val (.int v7), .val (.int v11), .val (.int v15), .val (.int v19), .val (.int v23), .val (.ref b25), .val (.ref b29), .val .null, .val .null, .val (.ref b38), .unset] [(.int v7)])) _
            refine XS.ifYes X44.here hx rfl (pc0 := 182) (pc' := 191) rfl (hb hby at_182) rfl ((if0 _ _).trans (teq hc53).1) (by decide) (by decide) ?_
            show Steps p.tables e below (T44.setTop (mkF m 191 #[.val (.int fl), .val (.long cl), .second, .val (.int cc), .val (.int v3), .val (.int v7), .val (.int v11), .val (.int v15), .val (.int v19), .val (.int v23), .val (.ref b25), .val (.ref b29), .val .null, .val .null, .val (.ref b38), .unset] [])) _
            refine XS.iconst X44.here hx rfl (hb hby at_191) ?_
            show Steps p.tables e below (T44.setTop (mkF m 192 #[.val (.int fl), .val (.long cl), .second, .val (.int cc), .val (.int v3), .val (.int v7), .val (.int v11), .val (.int v15), .val (.int v19), .val (.int v23), .val (.ref b25), .val (.ref b29), .val .null, .val .null, .val (.ref b38), .unset] [(.int (0 : Int32))])) _
            refine XS.istore X44.here hx rfl (hb hby at_192) rfl (l' := #[.val (.int fl), .val (.long cl), .second, .val (.int cc), .val (.int v3), .val (.int v7), .val (.int v11), .val (.int v15), .val (.int v19), .val (.int v23), .val (.ref b25), .val (.ref b29), .val .null, .val .null, .val (.ref b38), .val (.int (0 : Int32))]) rfl ?_
            show Steps p.tables e below (T44.setTop (mkF m 194 #[.val (.int fl), .val (.long cl), .second, .val (.int cc), .val (.int v3), .val (.int v7), .val (.int v11), .val (.int v15), .val (.int v19), .val (.int v23), .val (.ref b25), .val (.ref b29), .val .null, .val .null, .val (.ref b38), .val (.int (0 : Int32))] [])) _
            refine XS.aload X44.here hx rfl (hb hby at_194) rfl rfl ?_
            show Steps p.tables e below (T44.setTop (mkF m 196 #[.val (.int fl), .val (.long cl), .second, .val (.int cc), .val (.int v3), .val (.int v7), .val (.int v11), .val (.int v15), .val (.int v19), .val (.int v23), .val (.ref b25), .val (.ref b29), .val .null, .val .null, .val (.ref b38), .val (.int (0 : Int32))] [(.ref b38)])) _
            refine st54.trans ?_
            show Steps p.tables e below (T54.setTop (mkF m 199 #[.val (.int fl), .val (.long cl), .second, .val (.int cc), .val (.int v3), .val (.int v7), .val (.int v11), .val (.int v15), .val (.int v19), .val (.int v23), .val (.ref b25), .val (.ref b29), .val .null, .val .null, .val (.ref b38), .val (.int (0 : Int32))] [(.int (own_cl (v7 &&& 1) (v3 &&& 1)))])) _
            refine XS.iload X54.here hx rfl (hb hby at_199) rfl ?_
            show Steps p.tables e below (T54.setTop (mkF m 201 #[.val (.int fl), .val (.long cl), .second, .val (.int cc), .val (.int v3), .val (.int v7), .val (.int v11), .val (.int v15), .val (.int v19), .val (.int v23), .val (.ref b25), .val (.ref b29), .val .null, .val .null, .val (.ref b38), .val (.int (0 : Int32))] [(.int (0 : Int32)), (.int (own_cl (v7 &&& 1) (v3 &&& 1)))])) _
            refine XS.icmpNo X54.here hx rfl (hb hby at_201) rfl (teq (show own_cl (v7 &&& 1) (v3 &&& 1) = (0 : Int32) from by rw [bv7, bv3]; unfold own_cl; rw [if_pos hc53, if_pos hc51])).2 ?_
            show Steps p.tables e below (T54.setTop (mkF m 204 #[.val (.int fl), .val (.long cl), .second, .val (.int cc), .val (.int v3), .val (.int v7), .val (.int v11), .val (.int v15), .val (.int v19), .val (.int v23), .val (.ref b25), .val (.ref b29), .val .null, .val .null, .val (.ref b38), .val (.int (0 : Int32))] [])) _
            refine XS.iconst X54.here hx rfl (hb hby at_204) ?_
            show Steps p.tables e below (T54.setTop (mkF m 205 #[.val (.int fl), .val (.long cl), .second, .val (.int cc), .val (.int v3), .val (.int v7), .val (.int v11), .val (.int v15), .val (.int v19), .val (.int v23), .val (.ref b25), .val (.ref b29), .val .null, .val .null, .val (.ref b38), .val (.int (0 : Int32))] [(.int (1 : Int32))])) _
            refine XS.goto X54.here hx rfl (pc0 := 205) (pc' := 209) rfl (hb hby at_205) (by decide) (by decide) ?_
            show Steps p.tables e below (T54.setTop (mkF m 209 #[.val (.int fl), .val (.long cl), .second, .val (.int cc), .val (.int v3), .val (.int v7), .val (.int v11), .val (.int v15), .val (.int v19), .val (.int v23), .val (.ref b25), .val (.ref b29), .val .null, .val .null, .val (.ref b38), .val (.int (0 : Int32))] [(.int (1 : Int32))])) _
            exact retN X54 hx (t := .boolean) Bd.returns (by simp) (hb hby at_209) hr
          · show own_Q0 Z fl cl cc w h0 n0 _ T54.heap _
            rw [e54]
            exact ⟨rfl, N54⟩
        · obtain ⟨cq55, kq55, q55a, q55b, q55c⟩ := isOf hZ rfl Eo44
          obtain ⟨_, _, ⟨T55, L55, k55, n55⟩, -, X55, ⟨Lc55, hQ55, l55, y55, z55⟩, st55⟩ := X44.virtualBack hx (y := (⟨"com/example/hatchd/hatchd/server/RequestReader$Request", "closes", "()Z"⟩ : MethodName)) (z := (⟨"com/example/hatchd/hatchd/server/RequestReader$Request", "closes", "()Z"⟩ : MethodName)) hown (mvT hZ (hw _ (List.mem_of_getElem? (i := 51) rfl))) (mvT hZ (hw _ (List.mem_of_getElem? (i := 52) rfl))) (notFace_of_selects (args := #[]) (mvT hZ (hw _ (List.mem_of_getElem? (i := 54) rfl)))) (mvT hZ (hw _ (List.mem_of_getElem? (i := 54) rfl))) (mvT hZ (hw _ (List.mem_of_getElem? (i := 53) rfl))) (by decide) (backOf (W := 0) (rm7 l Z a0 hw [] b38 (v7 &&& 1) (v3 &&& 1) T44.heap n0 z48 Fc44 Fh44) hZ (hw _ (List.mem_of_getElem? (i := 55) rfl)) (hw _ (List.mem_of_getElem? (i := 28) rfl)) (by decide) (by decide)) q55a q55c (g := (mkF m 196 #[.val (.int fl), .val (.long cl), .second, .val (.int cc), .val (.int v3), .val (.int v7), .val (.int v11), .val (.int v15), .val (.int v19), .val (.int v23), .val (.ref b25), .val (.ref b29), .val .null, .val .null, .val (.ref b38), .val (.int (1 : Int32))] [(.ref b38)])) rfl (by rw [hml]; rfl) (Steps.refl _) (argsL := []) (rest := []) (lenOf pd_6 rfl) rfl (by show 2 * 0 + _ ≤ _; exact Nat.le_of_eq rfl) (hb hby at_196) (fun _ _ => ⟨rfl, rfl, (by decide : 5 + 0 ≤ _), (by decide : 19 + 0 ≤ _)⟩)
          dsimp only [Pt.U, Pt.locs, Pt.cells, Pt.slots] at X55 l55 y55 z55 st55 hQ55
          subst l55 y55 z55
          obtain ⟨rfl, N55q, e55⟩ := hQ55
          have N55 := Fr.app N44 N55q
          obtain ⟨fs, hr, hrun, hended, hW, hsame⟩ := X55.leave (v := some (.int (1 : Int32))) (fun h => by rw [Bd.returns] at h; cases h)
          refine ⟨_, _, k52 _ ?_, hrun, hended, _, _, rfl, ?_, ⟨_, rfl⟩, hW, hsame.mono (by decide) (by decide)⟩
          · show Steps p.tables e below (T44.setTop (mkF m 182 #[.val (.int fl), .val (.long cl), .second, .val (.int cc), .val (.int v3), .val (.int v7), .val (.int v11), .val (.int v15), .val (.int v19), .val (.int v23), .val (.ref b25), .val (.ref b29), .val .null, .val .null, .val (.ref b38), .unset] [(.int v7)])) _
            refine XS.ifNo X44.here hx rfl (hb hby at_182) rfl ((if0 _ _).trans (feq hc53).1) ?_
            show Steps p.tables e below (T44.setTop (mkF m 185 #[.val (.int fl), .val (.long cl), .second, .val (.int cc), .val (.int v3), .val (.int v7), .val (.int v11), .val (.int v15), .val (.int v19), .val (.int v23), .val (.ref b25), .val (.ref b29), .val .null, .val .null, .val (.ref b38), .unset] [])) _
            refine XS.iconst X44.here hx rfl (hb hby at_185) ?_
            show Steps p.tables e below (T44.setTop (mkF m 186 #[.val (.int fl), .val (.long cl), .second, .val (.int cc), .val (.int v3), .val (.int v7), .val (.int v11), .val (.int v15), .val (.int v19), .val (.int v23), .val (.ref b25), .val (.ref b29), .val .null, .val .null, .val (.ref b38), .unset] [(.int (1 : Int32))])) _
            refine XS.istore X44.here hx rfl (hb hby at_186) rfl (l' := #[.val (.int fl), .val (.long cl), .second, .val (.int cc), .val (.int v3), .val (.int v7), .val (.int v11), .val (.int v15), .val (.int v19), .val (.int v23), .val (.ref b25), .val (.ref b29), .val .null, .val .null, .val (.ref b38), .val (.int (1 : Int32))]) rfl ?_
            show Steps p.tables e below (T44.setTop (mkF m 188 #[.val (.int fl), .val (.long cl), .second, .val (.int cc), .val (.int v3), .val (.int v7), .val (.int v11), .val (.int v15), .val (.int v19), .val (.int v23), .val (.ref b25), .val (.ref b29), .val .null, .val .null, .val (.ref b38), .val (.int (1 : Int32))] [])) _
            refine XS.goto X44.here hx rfl (pc0 := 188) (pc' := 194) rfl (hb hby at_188) (by decide) (by decide) ?_
            show Steps p.tables e below (T44.setTop (mkF m 194 #[.val (.int fl), .val (.long cl), .second, .val (.int cc), .val (.int v3), .val (.int v7), .val (.int v11), .val (.int v15), .val (.int v19), .val (.int v23), .val (.ref b25), .val (.ref b29), .val .null, .val .null, .val (.ref b38), .val (.int (1 : Int32))] [])) _
            refine XS.aload X44.here hx rfl (hb hby at_194) rfl rfl ?_
            show Steps p.tables e below (T44.setTop (mkF m 196 #[.val (.int fl), .val (.long cl), .second, .val (.int cc), .val (.int v3), .val (.int v7), .val (.int v11), .val (.int v15), .val (.int v19), .val (.int v23), .val (.ref b25), .val (.ref b29), .val .null, .val .null, .val (.ref b38), .val (.int (1 : Int32))] [(.ref b38)])) _
            refine st55.trans ?_
            show Steps p.tables e below (T55.setTop (mkF m 199 #[.val (.int fl), .val (.long cl), .second, .val (.int cc), .val (.int v3), .val (.int v7), .val (.int v11), .val (.int v15), .val (.int v19), .val (.int v23), .val (.ref b25), .val (.ref b29), .val .null, .val .null, .val (.ref b38), .val (.int (1 : Int32))] [(.int (own_cl (v7 &&& 1) (v3 &&& 1)))])) _
            refine XS.iload X55.here hx rfl (hb hby at_199) rfl ?_
            show Steps p.tables e below (T55.setTop (mkF m 201 #[.val (.int fl), .val (.long cl), .second, .val (.int cc), .val (.int v3), .val (.int v7), .val (.int v11), .val (.int v15), .val (.int v19), .val (.int v23), .val (.ref b25), .val (.ref b29), .val .null, .val .null, .val (.ref b38), .val (.int (1 : Int32))] [(.int (1 : Int32)), (.int (own_cl (v7 &&& 1) (v3 &&& 1)))])) _
            refine XS.icmpNo X55.here hx rfl (hb hby at_201) rfl (teq (show own_cl (v7 &&& 1) (v3 &&& 1) = (1 : Int32) from by rw [bv7, bv3]; unfold own_cl; rw [if_neg hc53])).2 ?_
            show Steps p.tables e below (T55.setTop (mkF m 204 #[.val (.int fl), .val (.long cl), .second, .val (.int cc), .val (.int v3), .val (.int v7), .val (.int v11), .val (.int v15), .val (.int v19), .val (.int v23), .val (.ref b25), .val (.ref b29), .val .null, .val .null, .val (.ref b38), .val (.int (1 : Int32))] [])) _
            refine XS.iconst X55.here hx rfl (hb hby at_204) ?_
            show Steps p.tables e below (T55.setTop (mkF m 205 #[.val (.int fl), .val (.long cl), .second, .val (.int cc), .val (.int v3), .val (.int v7), .val (.int v11), .val (.int v15), .val (.int v19), .val (.int v23), .val (.ref b25), .val (.ref b29), .val .null, .val .null, .val (.ref b38), .val (.int (1 : Int32))] [(.int (1 : Int32))])) _
            refine XS.goto X55.here hx rfl (pc0 := 205) (pc' := 209) rfl (hb hby at_205) (by decide) (by decide) ?_
            show Steps p.tables e below (T55.setTop (mkF m 209 #[.val (.int fl), .val (.long cl), .second, .val (.int cc), .val (.int v3), .val (.int v7), .val (.int v11), .val (.int v15), .val (.int v19), .val (.int v23), .val (.ref b25), .val (.ref b29), .val .null, .val .null, .val (.ref b38), .val (.int (1 : Int32))] [(.int (1 : Int32))])) _
            exact retN X55 hx (t := .boolean) Bd.returns (by simp) (hb hby at_209) hr
          · show own_Q0 Z fl cl cc w h0 n0 _ T55.heap _
            rw [e55]
            exact ⟨rfl, N55⟩
      · obtain ⟨cq56, kq56, q56a, q56b, q56c⟩ := isOf hZ rfl Eo44
        obtain ⟨_, _, ⟨T56, L56, k56, n56⟩, -, X56, ⟨Lc56, hQ56, l56, y56, z56⟩, st56⟩ := X44.virtualBack hx (y := (⟨"com/example/hatchd/hatchd/server/RequestReader$Request", "closes", "()Z"⟩ : MethodName)) (z := (⟨"com/example/hatchd/hatchd/server/RequestReader$Request", "closes", "()Z"⟩ : MethodName)) hown (mvT hZ (hw _ (List.mem_of_getElem? (i := 51) rfl))) (mvT hZ (hw _ (List.mem_of_getElem? (i := 52) rfl))) (notFace_of_selects (args := #[]) (mvT hZ (hw _ (List.mem_of_getElem? (i := 54) rfl)))) (mvT hZ (hw _ (List.mem_of_getElem? (i := 54) rfl))) (mvT hZ (hw _ (List.mem_of_getElem? (i := 53) rfl))) (by decide) (backOf (W := 0) (rm7 l Z a0 hw [] b38 (v7 &&& 1) (v3 &&& 1) T44.heap n0 z48 Fc44 Fh44) hZ (hw _ (List.mem_of_getElem? (i := 55) rfl)) (hw _ (List.mem_of_getElem? (i := 28) rfl)) (by decide) (by decide)) q56a q56c (g := (mkF m 196 #[.val (.int fl), .val (.long cl), .second, .val (.int cc), .val (.int v3), .val (.int v7), .val (.int v11), .val (.int v15), .val (.int v19), .val (.int v23), .val (.ref b25), .val (.ref b29), .val .null, .val .null, .val (.ref b38), .val (.int (1 : Int32))] [(.ref b38)])) rfl (by rw [hml]; rfl) (Steps.refl _) (argsL := []) (rest := []) (lenOf pd_6 rfl) rfl (by show 2 * 0 + _ ≤ _; exact Nat.le_of_eq rfl) (hb hby at_196) (fun _ _ => ⟨rfl, rfl, (by decide : 5 + 0 ≤ _), (by decide : 19 + 0 ≤ _)⟩)
        dsimp only [Pt.U, Pt.locs, Pt.cells, Pt.slots] at X56 l56 y56 z56 st56 hQ56
        subst l56 y56 z56
        obtain ⟨rfl, N56q, e56⟩ := hQ56
        have N56 := Fr.app N44 N56q
        obtain ⟨fs, hr, hrun, hended, hW, hsame⟩ := X56.leave (v := some (.int (1 : Int32))) (fun h => by rw [Bd.returns] at h; cases h)
        refine ⟨_, _, k50 _ ?_, hrun, hended, _, _, rfl, ?_, ⟨_, rfl⟩, hW, hsame.mono (by decide) (by decide)⟩
        · show Steps p.tables e below (T44.setTop (mkF m 171 #[.val (.int fl), .val (.long cl), .second, .val (.int cc), .val (.int v3), .val (.int v7), .val (.int v11), .val (.int v15), .val (.int v19), .val (.int v23), .val (.ref b25), .val (.ref b29), .val .null, .val .null, .val (.ref b38), .unset] [(.int v3)])) _
          refine XS.ifNo X44.here hx rfl (hb hby at_171) rfl ((if0 _ _).trans (feq hc51).1) ?_
          show Steps p.tables e below (T44.setTop (mkF m 174 #[.val (.int fl), .val (.long cl), .second, .val (.int cc), .val (.int v3), .val (.int v7), .val (.int v11), .val (.int v15), .val (.int v19), .val (.int v23), .val (.ref b25), .val (.ref b29), .val .null, .val .null, .val (.ref b38), .unset] [])) _
          refine XS.iconst X44.here hx rfl (hb hby at_174) ?_
          show Steps p.tables e below (T44.setTop (mkF m 175 #[.val (.int fl), .val (.long cl), .second, .val (.int cc), .val (.int v3), .val (.int v7), .val (.int v11), .val (.int v15), .val (.int v19), .val (.int v23), .val (.ref b25), .val (.ref b29), .val .null, .val .null, .val (.ref b38), .unset] [(.int (1 : Int32))])) _
          refine XS.istore X44.here hx rfl (hb hby at_175) rfl (l' := #[.val (.int fl), .val (.long cl), .second, .val (.int cc), .val (.int v3), .val (.int v7), .val (.int v11), .val (.int v15), .val (.int v19), .val (.int v23), .val (.ref b25), .val (.ref b29), .val .null, .val .null, .val (.ref b38), .val (.int (1 : Int32))]) rfl ?_
          show Steps p.tables e below (T44.setTop (mkF m 177 #[.val (.int fl), .val (.long cl), .second, .val (.int cc), .val (.int v3), .val (.int v7), .val (.int v11), .val (.int v15), .val (.int v19), .val (.int v23), .val (.ref b25), .val (.ref b29), .val .null, .val .null, .val (.ref b38), .val (.int (1 : Int32))] [])) _
          refine XS.goto X44.here hx rfl (pc0 := 177) (pc' := 194) rfl (hb hby at_177) (by decide) (by decide) ?_
          show Steps p.tables e below (T44.setTop (mkF m 194 #[.val (.int fl), .val (.long cl), .second, .val (.int cc), .val (.int v3), .val (.int v7), .val (.int v11), .val (.int v15), .val (.int v19), .val (.int v23), .val (.ref b25), .val (.ref b29), .val .null, .val .null, .val (.ref b38), .val (.int (1 : Int32))] [])) _
          refine XS.aload X44.here hx rfl (hb hby at_194) rfl rfl ?_
          show Steps p.tables e below (T44.setTop (mkF m 196 #[.val (.int fl), .val (.long cl), .second, .val (.int cc), .val (.int v3), .val (.int v7), .val (.int v11), .val (.int v15), .val (.int v19), .val (.int v23), .val (.ref b25), .val (.ref b29), .val .null, .val .null, .val (.ref b38), .val (.int (1 : Int32))] [(.ref b38)])) _
          refine st56.trans ?_
          show Steps p.tables e below (T56.setTop (mkF m 199 #[.val (.int fl), .val (.long cl), .second, .val (.int cc), .val (.int v3), .val (.int v7), .val (.int v11), .val (.int v15), .val (.int v19), .val (.int v23), .val (.ref b25), .val (.ref b29), .val .null, .val .null, .val (.ref b38), .val (.int (1 : Int32))] [(.int (own_cl (v7 &&& 1) (v3 &&& 1)))])) _
          refine XS.iload X56.here hx rfl (hb hby at_199) rfl ?_
          show Steps p.tables e below (T56.setTop (mkF m 201 #[.val (.int fl), .val (.long cl), .second, .val (.int cc), .val (.int v3), .val (.int v7), .val (.int v11), .val (.int v15), .val (.int v19), .val (.int v23), .val (.ref b25), .val (.ref b29), .val .null, .val .null, .val (.ref b38), .val (.int (1 : Int32))] [(.int (1 : Int32)), (.int (own_cl (v7 &&& 1) (v3 &&& 1)))])) _
          refine XS.icmpNo X56.here hx rfl (hb hby at_201) rfl (teq (show own_cl (v7 &&& 1) (v3 &&& 1) = (1 : Int32) from by rw [bv7, bv3]; unfold own_cl; rw [if_neg hc51]; split <;> rfl)).2 ?_
          show Steps p.tables e below (T56.setTop (mkF m 204 #[.val (.int fl), .val (.long cl), .second, .val (.int cc), .val (.int v3), .val (.int v7), .val (.int v11), .val (.int v15), .val (.int v19), .val (.int v23), .val (.ref b25), .val (.ref b29), .val .null, .val .null, .val (.ref b38), .val (.int (1 : Int32))] [])) _
          refine XS.iconst X56.here hx rfl (hb hby at_204) ?_
          show Steps p.tables e below (T56.setTop (mkF m 205 #[.val (.int fl), .val (.long cl), .second, .val (.int cc), .val (.int v3), .val (.int v7), .val (.int v11), .val (.int v15), .val (.int v19), .val (.int v23), .val (.ref b25), .val (.ref b29), .val .null, .val .null, .val (.ref b38), .val (.int (1 : Int32))] [(.int (1 : Int32))])) _
          refine XS.goto X56.here hx rfl (pc0 := 205) (pc' := 209) rfl (hb hby at_205) (by decide) (by decide) ?_
          show Steps p.tables e below (T56.setTop (mkF m 209 #[.val (.int fl), .val (.long cl), .second, .val (.int cc), .val (.int v3), .val (.int v7), .val (.int v11), .val (.int v15), .val (.int v19), .val (.int v23), .val (.ref b25), .val (.ref b29), .val .null, .val .null, .val (.ref b38), .val (.int (1 : Int32))] [(.int (1 : Int32))])) _
          exact retN X56 hx (t := .boolean) Bd.returns (by simp) (hb hby at_209) hr
        · show own_Q0 Z fl cl cc w h0 n0 _ T56.heap _
          rw [e56]
          exact ⟨rfl, N56⟩
    · obtain ⟨T57, h57, k57, X57, e57, E57, A57, st57⟩ := newP X29 hx hZ (hw _ (List.mem_of_getElem? (i := 14) rfl)) rfl (g := (mkF m 135 #[.val (.int fl), .val (.long cl), .second, .val (.int cc), .val (.int v3), .val (.int v7), .val (.int v11), .val (.int v15), .val (.int v19), .val (.int v23), .val (.ref b25), .val (.ref b29), .val .null, .unset, .unset, .unset] [(.int (1 : Int32))])) rfl (hb hby at_135) rfl (by decide) (cap := 1) (by decide) (by decide) (by decide) (by decide)
      obtain ⟨b57, g57⟩ : ∃ z, z = T29.heap.size := ⟨_, rfl⟩
      rw [← g57] at A57 st57
      have ne_b25_b57 : b25 ≠ b57 := Nat.ne_of_lt (Nat.lt_of_lt_of_le f31.lt (Nat.le_of_eq g57.symm))
      have ne_b29_b57 : b29 ≠ b57 := Nat.ne_of_lt (Nat.lt_of_lt_of_le Es29.lt (Nat.le_of_eq g57.symm))
      have g_b57 : n0 ≤ b57 := Nat.le_trans z32 (Nat.le_of_eq g57.symm)
      have sz_b57 : h0.size ≤ b57 := Nat.le_trans kp33.1 (Nat.le_of_eq g57.symm)
      have f58 := f30.ext E57
      have f59 := f31.ext E57
      have f60 := Es29.ext E57
      have z61 := Nat.le_trans z32 E57.1
      have kp62 := kp33.ext E57
      have V_b57 : Arv Z h57 b57 k57 .byte (1 : Int32) [(.int (0 : Int32))] (.int (0 : Int32)) := (Arv.new A57 (by decide)).pad (pad_rep [] (.int (0 : Int32)) 1)
      obtain ⟨T63, h63, X63, e63, E63, A63, D63, U63, st63⟩ := newO X57 hx hZ hown (hw _ (List.mem_of_getElem? (i := 26) rfl)) (hw _ (List.mem_of_getElem? (i := 27) rfl)) (hw _ (List.mem_of_getElem? (i := 28) rfl)) e57 (g := (mkF m 143 #[.val (.int fl), .val (.long cl), .second, .val (.int cc), .val (.int v3), .val (.int v7), .val (.int v11), .val (.int v15), .val (.int v19), .val (.int v23), .val (.ref b25), .val (.ref b29), .val .null, .val (.ref b57), .unset, .unset] [])) rfl (hb hby at_143) (by decide) (by decide)
      obtain ⟨b63, g63⟩ : ∃ z, z = h57.size := ⟨_, rfl⟩
      rw [← g63] at A63 D63 U63 st63
      have ne_b25_b63 : b25 ≠ b63 := Nat.ne_of_lt (Nat.lt_of_lt_of_le f59.lt (Nat.le_of_eq g63.symm))
      have ne_b29_b63 : b29 ≠ b63 := Nat.ne_of_lt (Nat.lt_of_lt_of_le f60.lt (Nat.le_of_eq g63.symm))
      have ne_b57_b63 : b57 ≠ b63 := Nat.ne_of_lt (Nat.lt_of_lt_of_le V_b57.lt (Nat.le_of_eq g63.symm))
      have g_b63 : n0 ≤ b63 := Nat.le_trans z61 (Nat.le_of_eq g63.symm)
      have sz_b63 : h0.size ≤ b63 := Nat.le_trans kp62.1 (Nat.le_of_eq g63.symm)
      have f64 := f58.ext E63
      have f65 := f59.ext E63
      have f66 := f60.ext E63
      have f67 := V_b57.ext E63
      have z68 := Nat.le_trans z61 E63.1
      have kp69 := kp62.ext E63
      have F_method_b63 : Fld Z h63 b63 "com/example/hatchd/hatchd/server/RequestReader$Request" "method" "Ljava/lang/String;" .null := D63 (Or.inr (hw _ (List.mem_of_getElem? (i := 34) rfl))) (ty := (.object "java/lang/String")) (by decide)
      have F_path_b63 : Fld Z h63 b63 "com/example/hatchd/hatchd/server/RequestReader$Request" "path" "Ljava/lang/String;" .null := D63 (Or.inr (hw _ (List.mem_of_getElem? (i := 36) rfl))) (ty := (.object "java/lang/String")) (by decide)
      have F_query_b63 : Fld Z h63 b63 "com/example/hatchd/hatchd/server/RequestReader$Request" "query" "Ljava/lang/String;" .null := D63 (Or.inr (hw _ (List.mem_of_getElem? (i := 38) rfl))) (ty := (.object "java/lang/String")) (by decide)
      have F_http10_b63 : Fld Z h63 b63 "com/example/hatchd/hatchd/server/RequestReader$Request" "http10" "Z" (.int (0 : Int32)) := D63 (Or.inr (hw _ (List.mem_of_getElem? (i := 40) rfl))) (ty := .boolean) (by decide)
      have F_close_b63 : Fld Z h63 b63 "com/example/hatchd/hatchd/server/RequestReader$Request" "close" "Z" (.int (0 : Int32)) := D63 (Or.inr (hw _ (List.mem_of_getElem? (i := 42) rfl))) (ty := .boolean) (by decide)
      have F_chunked_b63 : Fld Z h63 b63 "com/example/hatchd/hatchd/server/RequestReader$Request" "chunked" "Z" (.int (0 : Int32)) := D63 (Or.inr (hw _ (List.mem_of_getElem? (i := 44) rfl))) (ty := .boolean) (by decide)
      have F_contentLength_b63 : Fld Z h63 b63 "com/example/hatchd/hatchd/server/RequestReader$Request" "contentLength" "J" (.long (0 : Int64)) := D63 (Or.inr (hw _ (List.mem_of_getElem? (i := 46) rfl))) (ty := .long) (by decide)
      have F_expectsContinue_b63 : Fld Z h63 b63 "com/example/hatchd/hatchd/server/RequestReader$Request" "expectsContinue" "Z" (.int (0 : Int32)) := D63 (Or.inr (hw _ (List.mem_of_getElem? (i := 48) rfl))) (ty := .boolean) (by decide)
      have F_body_b63 : Fld Z h63 b63 "com/example/hatchd/hatchd/server/RequestReader$Request" "body" "[B" .null := D63 (Or.inr (hw _ (List.mem_of_getElem? (i := 50) rfl))) (ty := (.array .byte)) (by decide)
      obtain ⟨_, _, ⟨T70, L70, k70, n70⟩, -, X70, ⟨Lc70, hQ70, l70, y70, z70⟩, st70⟩ := X63.specialBack hx (y := (⟨"com/example/hatchd/hatchd/server/RequestReader$Request", "<init>", "(Ljava/lang/String;Ljava/lang/String;Ljava/lang/String;ZZZJZ[B)V"⟩ : MethodName)) rfl hown (mvT hZ (hw _ (List.mem_of_getElem? (i := 29) rfl))) (mvT hZ (hw _ (List.mem_of_getElem? (i := 30) rfl))) (mvT hZ (hw _ (List.mem_of_getElem? (i := 31) rfl))) (by decide) (backOf (W := 1) (rm6b l Z a0 hw [] b63 b25 b29 v3 v7 v11 cl v15 b57 h63 n0 z68 A63 F_method_b63 F_path_b63 F_query_b63 F_http10_b63 F_close_b63 F_chunked_b63 F_contentLength_b63 F_expectsContinue_b63 F_body_b63 g_b63) hZ (hw _ (List.mem_of_getElem? (i := 31) rfl)) (hw _ (List.mem_of_getElem? (i := 28) rfl)) (by decide) (by decide)) (g := (mkF m 164 #[.val (.int fl), .val (.long cl), .second, .val (.int cc), .val (.int v3), .val (.int v7), .val (.int v11), .val (.int v15), .val (.int v19), .val (.int v23), .val (.ref b25), .val (.ref b29), .val .null, .val (.ref b57), .unset, .unset] [(.ref b57), (.int v15), (.long cl), (.int v11), (.int v7), (.int v3), .null, (.ref b29), (.ref b25), (.ref b63), (.ref b63)])) rfl (by rw [hml]; rfl) (Steps.refl _) (a := b63) (argsL := [(.ref b25), (.ref b29), .null, (.int v3), (.int v7), (.int v11), (.long cl), (.int v15), (.ref b57)]) (rest := [(.ref b63)]) (lenOf pd_5 rfl) rfl (by show 2 * 0 + _ ≤ _; exact Nat.le_of_eq rfl) (hb hby at_164) (fun _ _ => ⟨rfl, e63, (by decide : 6 + 0 ≤ _), (by decide : 20 + 0 ≤ _)⟩)
      dsimp only [Pt.U, Pt.locs, Pt.cells, Pt.slots] at X70 l70 y70 z70 st70 hQ70
      subst l70 y70 z70
      obtain ⟨rfl, N70q, K70, Eo70, Fh70, Fc70⟩ := hQ70
      have N70 := Fr.app N29 N70q
      have f71 := f65.keep K70
      have f72 := f66.keep K70
      have f73 := f67.keep K70 (ninS ne_b57_b63 nin0)
      have f74 := A63.keep K70
      have z75 := Nat.le_trans z68 K70.1
      have kp76 := Keep.trans kp69 K70 (allS (Or.inr sz_b63) all0)
      have k77 : ∀ tq, Steps p.tables e below (T70.setTop (mkF m 171 #[.val (.int fl), .val (.long cl), .second, .val (.int cc), .val (.int v3), .val (.int v7), .val (.int v11), .val (.int v15), .val (.int v19), .val (.int v23), .val (.ref b25), .val (.ref b29), .val .null, .val (.ref b57), .val (.ref b63), .unset] [(.int v3)])) tq → Steps p.tables e below (s₁.setTop (entryFrame m #[(.int fl), (.long cl), (.int cc)] maxLocals)) tq := by
        intro tq kt
        refine k36 tq ?_
        show Steps p.tables e below (T29.setTop (mkF m 131 #[.val (.int fl), .val (.long cl), .second, .val (.int cc), .val (.int v3), .val (.int v7), .val (.int v11), .val (.int v15), .val (.int v19), .val (.int v23), .val (.ref b25), .val (.ref b29), .val .null, .unset, .unset, .unset] [(.int v23)])) _
        refine XS.ifNo X29.here hx rfl (hb hby at_131) rfl ((if0 _ _).trans (feq hc37).1) ?_
        show Steps p.tables e below (T29.setTop (mkF m 134 #[.val (.int fl), .val (.long cl), .second, .val (.int cc), .val (.int v3), .val (.int v7), .val (.int v11), .val (.int v15), .val (.int v19), .val (.int v23), .val (.ref b25), .val (.ref b29), .val .null, .unset, .unset, .unset] [])) _
        refine XS.iconst X29.here hx rfl (hb hby at_134) ?_
        show Steps p.tables e below (T29.setTop (mkF m 135 #[.val (.int fl), .val (.long cl), .second, .val (.int cc), .val (.int v3), .val (.int v7), .val (.int v11), .val (.int v15), .val (.int v19), .val (.int v23), .val (.ref b25), .val (.ref b29), .val .null, .unset, .unset, .unset] [(.int (1 : Int32))])) _
        refine st57 _ ?_
        show Steps p.tables e below (T57.setTop (mkF m 137 #[.val (.int fl), .val (.long cl), .second, .val (.int cc), .val (.int v3), .val (.int v7), .val (.int v11), .val (.int v15), .val (.int v19), .val (.int v23), .val (.ref b25), .val (.ref b29), .val .null, .unset, .unset, .unset] [(.ref b57)])) _
        refine XS.goto X57.here hx rfl (pc0 := 137) (pc' := 141) rfl (hb hby at_137) (by decide) (by decide) ?_
        show Steps p.tables e below (T57.setTop (mkF m 141 #[.val (.int fl), .val (.long cl), .second, .val (.int cc), .val (.int v3), .val (.int v7), .val (.int v11), .val (.int v15), .val (.int v19), .val (.int v23), .val (.ref b25), .val (.ref b29), .val .null, .unset, .unset, .unset] [(.ref b57)])) _
        refine XS.astore X57.here hx rfl (hb hby at_141) rfl rfl (l' := #[.val (.int fl), .val (.long cl), .second, .val (.int cc), .val (.int v3), .val (.int v7), .val (.int v11), .val (.int v15), .val (.int v19), .val (.int v23), .val (.ref b25), .val (.ref b29), .val .null, .val (.ref b57), .unset, .unset]) rfl ?_
        show Steps p.tables e below (T57.setTop (mkF m 143 #[.val (.int fl), .val (.long cl), .second, .val (.int cc), .val (.int v3), .val (.int v7), .val (.int v11), .val (.int v15), .val (.int v19), .val (.int v23), .val (.ref b25), .val (.ref b29), .val .null, .val (.ref b57), .unset, .unset] [])) _
        refine st63 _ ?_
        show Steps p.tables e below (T63.setTop (mkF m 146 #[.val (.int fl), .val (.long cl), .second, .val (.int cc), .val (.int v3), .val (.int v7), .val (.int v11), .val (.int v15), .val (.int v19), .val (.int v23), .val (.ref b25), .val (.ref b29), .val .null, .val (.ref b57), .unset, .unset] [(.ref b63)])) _
        refine XS.dup X63.here hx rfl (hb hby at_146) rfl rfl ?_
        show Steps p.tables e below (T63.setTop (mkF m 147 #[.val (.int fl), .val (.long cl), .second, .val (.int cc), .val (.int v3), .val (.int v7), .val (.int v11), .val (.int v15), .val (.int v19), .val (.int v23), .val (.ref b25), .val (.ref b29), .val .null, .val (.ref b57), .unset, .unset] [(.ref b63), (.ref b63)])) _
        refine XS.aload X63.here hx rfl (hb hby at_147) rfl rfl ?_
        show Steps p.tables e below (T63.setTop (mkF m 149 #[.val (.int fl), .val (.long cl), .second, .val (.int cc), .val (.int v3), .val (.int v7), .val (.int v11), .val (.int v15), .val (.int v19), .val (.int v23), .val (.ref b25), .val (.ref b29), .val .null, .val (.ref b57), .unset, .unset] [(.ref b25), (.ref b63), (.ref b63)])) _
        refine XS.aload X63.here hx rfl (hb hby at_149) rfl rfl ?_
        show Steps p.tables e below (T63.setTop (mkF m 151 #[.val (.int fl), .val (.long cl), .second, .val (.int cc), .val (.int v3), .val (.int v7), .val (.int v11), .val (.int v15), .val (.int v19), .val (.int v23), .val (.ref b25), .val (.ref b29), .val .null, .val (.ref b57), .unset, .unset] [(.ref b29), (.ref b25), (.ref b63), (.ref b63)])) _
        refine XS.aload X63.here hx rfl (hb hby at_151) rfl rfl ?_
        show Steps p.tables e below (T63.setTop (mkF m 153 #[.val (.int fl), .val (.long cl), .second, .val (.int cc), .val (.int v3), .val (.int v7), .val (.int v11), .val (.int v15), .val (.int v19), .val (.int v23), .val (.ref b25), .val (.ref b29), .val .null, .val (.ref b57), .unset, .unset] [.null, (.ref b29), (.ref b25), (.ref b63), (.ref b63)])) _
        refine XS.iload X63.here hx rfl (hb hby at_153) rfl ?_
        show Steps p.tables e below (T63.setTop (mkF m 155 #[.val (.int fl), .val (.long cl), .second, .val (.int cc), .val (.int v3), .val (.int v7), .val (.int v11), .val (.int v15), .val (.int v19), .val (.int v23), .val (.ref b25), .val (.ref b29), .val .null, .val (.ref b57), .unset, .unset] [(.int v3), .null, (.ref b29), (.ref b25), (.ref b63), (.ref b63)])) _
        refine XS.iload X63.here hx rfl (hb hby at_155) rfl ?_
        show Steps p.tables e below (T63.setTop (mkF m 157 #[.val (.int fl), .val (.long cl), .second, .val (.int cc), .val (.int v3), .val (.int v7), .val (.int v11), .val (.int v15), .val (.int v19), .val (.int v23), .val (.ref b25), .val (.ref b29), .val .null, .val (.ref b57), .unset, .unset] [(.int v7), (.int v3), .null, (.ref b29), (.ref b25), (.ref b63), (.ref b63)])) _
        refine XS.iload X63.here hx rfl (hb hby at_157) rfl ?_
        show Steps p.tables e below (T63.setTop (mkF m 159 #[.val (.int fl), .val (.long cl), .second, .val (.int cc), .val (.int v3), .val (.int v7), .val (.int v11), .val (.int v15), .val (.int v19), .val (.int v23), .val (.ref b25), .val (.ref b29), .val .null, .val (.ref b57), .unset, .unset] [(.int v11), (.int v7), (.int v3), .null, (.ref b29), (.ref b25), (.ref b63), (.ref b63)])) _
        refine XS.lloadN X63.here hx rfl (hb hby at_159) rfl ?_
        show Steps p.tables e below (T63.setTop (mkF m 160 #[.val (.int fl), .val (.long cl), .second, .val (.int cc), .val (.int v3), .val (.int v7), .val (.int v11), .val (.int v15), .val (.int v19), .val (.int v23), .val (.ref b25), .val (.ref b29), .val .null, .val (.ref b57), .unset, .unset] [(.long cl), (.int v11), (.int v7), (.int v3), .null, (.ref b29), (.ref b25), (.ref b63), (.ref b63)])) _
        refine XS.iload X63.here hx rfl (hb hby at_160) rfl ?_
        show Steps p.tables e below (T63.setTop (mkF m 162 #[.val (.int fl), .val (.long cl), .second, .val (.int cc), .val (.int v3), .val (.int v7), .val (.int v11), .val (.int v15), .val (.int v19), .val (.int v23), .val (.ref b25), .val (.ref b29), .val .null, .val (.ref b57), .unset, .unset] [(.int v15), (.long cl), (.int v11), (.int v7), (.int v3), .null, (.ref b29), (.ref b25), (.ref b63), (.ref b63)])) _
        refine XS.aload X63.here hx rfl (hb hby at_162) rfl rfl ?_
        show Steps p.tables e below (T63.setTop (mkF m 164 #[.val (.int fl), .val (.long cl), .second, .val (.int cc), .val (.int v3), .val (.int v7), .val (.int v11), .val (.int v15), .val (.int v19), .val (.int v23), .val (.ref b25), .val (.ref b29), .val .null, .val (.ref b57), .unset, .unset] [(.ref b57), (.int v15), (.long cl), (.int v11), (.int v7), (.int v3), .null, (.ref b29), (.ref b25), (.ref b63), (.ref b63)])) _
        refine st70.trans ?_
        show Steps p.tables e below (T70.setTop (mkF m 167 #[.val (.int fl), .val (.long cl), .second, .val (.int cc), .val (.int v3), .val (.int v7), .val (.int v11), .val (.int v15), .val (.int v19), .val (.int v23), .val (.ref b25), .val (.ref b29), .val .null, .val (.ref b57), .unset, .unset] [(.ref b63)])) _
        refine XS.astore X70.here hx rfl (hb hby at_167) rfl rfl (l' := #[.val (.int fl), .val (.long cl), .second, .val (.int cc), .val (.int v3), .val (.int v7), .val (.int v11), .val (.int v15), .val (.int v19), .val (.int v23), .val (.ref b25), .val (.ref b29), .val .null, .val (.ref b57), .val (.ref b63), .unset]) rfl ?_
        show Steps p.tables e below (T70.setTop (mkF m 169 #[.val (.int fl), .val (.long cl), .second, .val (.int cc), .val (.int v3), .val (.int v7), .val (.int v11), .val (.int v15), .val (.int v19), .val (.int v23), .val (.ref b25), .val (.ref b29), .val .null, .val (.ref b57), .val (.ref b63), .unset] [])) _
        refine XS.iload X70.here hx rfl (hb hby at_169) rfl ?_
        exact kt
      by_cases hc78 : v3 = (0 : Int32)
      · have k79 : ∀ tq, Steps p.tables e below (T70.setTop (mkF m 182 #[.val (.int fl), .val (.long cl), .second, .val (.int cc), .val (.int v3), .val (.int v7), .val (.int v11), .val (.int v15), .val (.int v19), .val (.int v23), .val (.ref b25), .val (.ref b29), .val .null, .val (.ref b57), .val (.ref b63), .unset] [(.int v7)])) tq → Steps p.tables e below (s₁.setTop (entryFrame m #[(.int fl), (.long cl), (.int cc)] maxLocals)) tq := by
          intro tq kt
          refine k77 tq ?_
          show Steps p.tables e below (T70.setTop (mkF m 171 #[.val (.int fl), .val (.long cl), .second, .val (.int cc), .val (.int v3), .val (.int v7), .val (.int v11), .val (.int v15), .val (.int v19), .val (.int v23), .val (.ref b25), .val (.ref b29), .val .null, .val (.ref b57), .val (.ref b63), .unset] [(.int v3)])) _
          refine XS.ifYes X70.here hx rfl (pc0 := 171) (pc' := 180) rfl (hb hby at_171) rfl ((if0 _ _).trans (teq hc78).1) (by decide) (by decide) ?_
          show Steps p.tables e below (T70.setTop (mkF m 180 #[.val (.int fl), .val (.long cl), .second, .val (.int cc), .val (.int v3), .val (.int v7), .val (.int v11), .val (.int v15), .val (.int v19), .val (.int v23), .val (.ref b25), .val (.ref b29), .val .null, .val (.ref b57), .val (.ref b63), .unset] [])) _
          refine XS.iload X70.here hx rfl (hb hby at_180) rfl ?_
          exact kt
        by_cases hc80 : v7 = (0 : Int32)
        · obtain ⟨cq81, kq81, q81a, q81b, q81c⟩ := isOf hZ rfl Eo70
          obtain ⟨_, _, ⟨T81, L81, k81, n81⟩, -, X81, ⟨Lc81, hQ81, l81, y81, z81⟩, st81⟩ := X70.virtualBack hx (y := (⟨"com/example/hatchd/hatchd/server/RequestReader$Request", "closes", "()Z"⟩ : MethodName)) (z := (⟨"com/example/hatchd/hatchd/server/RequestReader$Request", "closes", "()Z"⟩ : MethodName)) hown (mvT hZ (hw _ (List.mem_of_getElem? (i := 51) rfl))) (mvT hZ (hw _ (List.mem_of_getElem? (i := 52) rfl))) (notFace_of_selects (args := #[]) (mvT hZ (hw _ (List.mem_of_getElem? (i := 54) rfl)))) (mvT hZ (hw _ (List.mem_of_getElem? (i := 54) rfl))) (mvT hZ (hw _ (List.mem_of_getElem? (i := 53) rfl))) (by decide) (backOf (W := 0) (rm7 l Z a0 hw [] b63 (v7 &&& 1) (v3 &&& 1) T70.heap n0 z75 Fc70 Fh70) hZ (hw _ (List.mem_of_getElem? (i := 55) rfl)) (hw _ (List.mem_of_getElem? (i := 28) rfl)) (by decide) (by decide)) q81a q81c (g := (mkF m 196 #[.val (.int fl), .val (.long cl), .second, .val (.int cc), .val (.int v3), .val (.int v7), .val (.int v11), .val (.int v15), .val (.int v19), .val (.int v23), .val (.ref b25), .val (.ref b29), .val .null, .val (.ref b57), .val (.ref b63), .val (.int (0 : Int32))] [(.ref b63)])) rfl (by rw [hml]; rfl) (Steps.refl _) (argsL := []) (rest := []) (lenOf pd_6 rfl) rfl (by show 2 * 0 + _ ≤ _; exact Nat.le_of_eq rfl) (hb hby at_196) (fun _ _ => ⟨rfl, rfl, (by decide : 6 + 0 ≤ _), (by decide : 20 + 0 ≤ _)⟩)
          dsimp only [Pt.U, Pt.locs, Pt.cells, Pt.slots] at X81 l81 y81 z81 st81 hQ81
          subst l81 y81 z81
          obtain ⟨rfl, N81q, e81⟩ := hQ81
          have N81 := Fr.app N70 N81q
          obtain ⟨fs, hr, hrun, hended, hW, hsame⟩ := X81.leave (v := some (.int (1 : Int32))) (fun h => by rw [Bd.returns] at h; cases h)
          refine ⟨_, _, k79 _ ?_, hrun, hended, _, _, rfl, ?_, ⟨_, rfl⟩, hW, hsame.mono (by decide) (by decide)⟩
          · show Steps p.tables e below (T70.setTop (mkF m 182 #[.val (.int fl), .val (.long cl), .second, .val (.int cc), .val (.int v3), .val (.int v7), .val (.int v11), .val (.int v15), .val (.int v19), .val (.int v23), .val (.ref b25), .val (.ref b29), .val .null, .val (.ref b57), .val (.ref b63), .unset] [(.int v7)])) _
            refine XS.ifYes X70.here hx rfl (pc0 := 182) (pc' := 191) rfl (hb hby at_182) rfl ((if0 _ _).trans (teq hc80).1) (by decide) (by decide) ?_
            show Steps p.tables e below (T70.setTop (mkF m 191 #[.val (.int fl), .val (.long cl), .second, .val (.int cc), .val (.int v3), .val (.int v7), .val (.int v11), .val (.int v15), .val (.int v19), .val (.int v23), .val (.ref b25), .val (.ref b29), .val .null, .val (.ref b57), .val (.ref b63), .unset] [])) _
            refine XS.iconst X70.here hx rfl (hb hby at_191) ?_
            show Steps p.tables e below (T70.setTop (mkF m 192 #[.val (.int fl), .val (.long cl), .second, .val (.int cc), .val (.int v3), .val (.int v7), .val (.int v11), .val (.int v15), .val (.int v19), .val (.int v23), .val (.ref b25), .val (.ref b29), .val .null, .val (.ref b57), .val (.ref b63), .unset] [(.int (0 : Int32))])) _
            refine XS.istore X70.here hx rfl (hb hby at_192) rfl (l' := #[.val (.int fl), .val (.long cl), .second, .val (.int cc), .val (.int v3), .val (.int v7), .val (.int v11), .val (.int v15), .val (.int v19), .val (.int v23), .val (.ref b25), .val (.ref b29), .val .null, .val (.ref b57), .val (.ref b63), .val (.int (0 : Int32))]) rfl ?_
            show Steps p.tables e below (T70.setTop (mkF m 194 #[.val (.int fl), .val (.long cl), .second, .val (.int cc), .val (.int v3), .val (.int v7), .val (.int v11), .val (.int v15), .val (.int v19), .val (.int v23), .val (.ref b25), .val (.ref b29), .val .null, .val (.ref b57), .val (.ref b63), .val (.int (0 : Int32))] [])) _
            refine XS.aload X70.here hx rfl (hb hby at_194) rfl rfl ?_
            show Steps p.tables e below (T70.setTop (mkF m 196 #[.val (.int fl), .val (.long cl), .second, .val (.int cc), .val (.int v3), .val (.int v7), .val (.int v11), .val (.int v15), .val (.int v19), .val (.int v23), .val (.ref b25), .val (.ref b29), .val .null, .val (.ref b57), .val (.ref b63), .val (.int (0 : Int32))] [(.ref b63)])) _
            refine st81.trans ?_
            show Steps p.tables e below (T81.setTop (mkF m 199 #[.val (.int fl), .val (.long cl), .second, .val (.int cc), .val (.int v3), .val (.int v7), .val (.int v11), .val (.int v15), .val (.int v19), .val (.int v23), .val (.ref b25), .val (.ref b29), .val .null, .val (.ref b57), .val (.ref b63), .val (.int (0 : Int32))] [(.int (own_cl (v7 &&& 1) (v3 &&& 1)))])) _
            refine XS.iload X81.here hx rfl (hb hby at_199) rfl ?_
            show Steps p.tables e below (T81.setTop (mkF m 201 #[.val (.int fl), .val (.long cl), .second, .val (.int cc), .val (.int v3), .val (.int v7), .val (.int v11), .val (.int v15), .val (.int v19), .val (.int v23), .val (.ref b25), .val (.ref b29), .val .null, .val (.ref b57), .val (.ref b63), .val (.int (0 : Int32))] [(.int (0 : Int32)), (.int (own_cl (v7 &&& 1) (v3 &&& 1)))])) _
            refine XS.icmpNo X81.here hx rfl (hb hby at_201) rfl (teq (show own_cl (v7 &&& 1) (v3 &&& 1) = (0 : Int32) from by rw [bv7, bv3]; unfold own_cl; rw [if_pos hc80, if_pos hc78])).2 ?_
            show Steps p.tables e below (T81.setTop (mkF m 204 #[.val (.int fl), .val (.long cl), .second, .val (.int cc), .val (.int v3), .val (.int v7), .val (.int v11), .val (.int v15), .val (.int v19), .val (.int v23), .val (.ref b25), .val (.ref b29), .val .null, .val (.ref b57), .val (.ref b63), .val (.int (0 : Int32))] [])) _
            refine XS.iconst X81.here hx rfl (hb hby at_204) ?_
            show Steps p.tables e below (T81.setTop (mkF m 205 #[.val (.int fl), .val (.long cl), .second, .val (.int cc), .val (.int v3), .val (.int v7), .val (.int v11), .val (.int v15), .val (.int v19), .val (.int v23), .val (.ref b25), .val (.ref b29), .val .null, .val (.ref b57), .val (.ref b63), .val (.int (0 : Int32))] [(.int (1 : Int32))])) _
            refine XS.goto X81.here hx rfl (pc0 := 205) (pc' := 209) rfl (hb hby at_205) (by decide) (by decide) ?_
            show Steps p.tables e below (T81.setTop (mkF m 209 #[.val (.int fl), .val (.long cl), .second, .val (.int cc), .val (.int v3), .val (.int v7), .val (.int v11), .val (.int v15), .val (.int v19), .val (.int v23), .val (.ref b25), .val (.ref b29), .val .null, .val (.ref b57), .val (.ref b63), .val (.int (0 : Int32))] [(.int (1 : Int32))])) _
            exact retN X81 hx (t := .boolean) Bd.returns (by simp) (hb hby at_209) hr
          · show own_Q0 Z fl cl cc w h0 n0 _ T81.heap _
            rw [e81]
            exact ⟨rfl, N81⟩
        · obtain ⟨cq82, kq82, q82a, q82b, q82c⟩ := isOf hZ rfl Eo70
          obtain ⟨_, _, ⟨T82, L82, k82, n82⟩, -, X82, ⟨Lc82, hQ82, l82, y82, z82⟩, st82⟩ := X70.virtualBack hx (y := (⟨"com/example/hatchd/hatchd/server/RequestReader$Request", "closes", "()Z"⟩ : MethodName)) (z := (⟨"com/example/hatchd/hatchd/server/RequestReader$Request", "closes", "()Z"⟩ : MethodName)) hown (mvT hZ (hw _ (List.mem_of_getElem? (i := 51) rfl))) (mvT hZ (hw _ (List.mem_of_getElem? (i := 52) rfl))) (notFace_of_selects (args := #[]) (mvT hZ (hw _ (List.mem_of_getElem? (i := 54) rfl)))) (mvT hZ (hw _ (List.mem_of_getElem? (i := 54) rfl))) (mvT hZ (hw _ (List.mem_of_getElem? (i := 53) rfl))) (by decide) (backOf (W := 0) (rm7 l Z a0 hw [] b63 (v7 &&& 1) (v3 &&& 1) T70.heap n0 z75 Fc70 Fh70) hZ (hw _ (List.mem_of_getElem? (i := 55) rfl)) (hw _ (List.mem_of_getElem? (i := 28) rfl)) (by decide) (by decide)) q82a q82c (g := (mkF m 196 #[.val (.int fl), .val (.long cl), .second, .val (.int cc), .val (.int v3), .val (.int v7), .val (.int v11), .val (.int v15), .val (.int v19), .val (.int v23), .val (.ref b25), .val (.ref b29), .val .null, .val (.ref b57), .val (.ref b63), .val (.int (1 : Int32))] [(.ref b63)])) rfl (by rw [hml]; rfl) (Steps.refl _) (argsL := []) (rest := []) (lenOf pd_6 rfl) rfl (by show 2 * 0 + _ ≤ _; exact Nat.le_of_eq rfl) (hb hby at_196) (fun _ _ => ⟨rfl, rfl, (by decide : 6 + 0 ≤ _), (by decide : 20 + 0 ≤ _)⟩)
          dsimp only [Pt.U, Pt.locs, Pt.cells, Pt.slots] at X82 l82 y82 z82 st82 hQ82
          subst l82 y82 z82
          obtain ⟨rfl, N82q, e82⟩ := hQ82
          have N82 := Fr.app N70 N82q
          obtain ⟨fs, hr, hrun, hended, hW, hsame⟩ := X82.leave (v := some (.int (1 : Int32))) (fun h => by rw [Bd.returns] at h; cases h)
          refine ⟨_, _, k79 _ ?_, hrun, hended, _, _, rfl, ?_, ⟨_, rfl⟩, hW, hsame.mono (by decide) (by decide)⟩
          · show Steps p.tables e below (T70.setTop (mkF m 182 #[.val (.int fl), .val (.long cl), .second, .val (.int cc), .val (.int v3), .val (.int v7), .val (.int v11), .val (.int v15), .val (.int v19), .val (.int v23), .val (.ref b25), .val (.ref b29), .val .null, .val (.ref b57), .val (.ref b63), .unset] [(.int v7)])) _
            refine XS.ifNo X70.here hx rfl (hb hby at_182) rfl ((if0 _ _).trans (feq hc80).1) ?_
            show Steps p.tables e below (T70.setTop (mkF m 185 #[.val (.int fl), .val (.long cl), .second, .val (.int cc), .val (.int v3), .val (.int v7), .val (.int v11), .val (.int v15), .val (.int v19), .val (.int v23), .val (.ref b25), .val (.ref b29), .val .null, .val (.ref b57), .val (.ref b63), .unset] [])) _
            refine XS.iconst X70.here hx rfl (hb hby at_185) ?_
            show Steps p.tables e below (T70.setTop (mkF m 186 #[.val (.int fl), .val (.long cl), .second, .val (.int cc), .val (.int v3), .val (.int v7), .val (.int v11), .val (.int v15), .val (.int v19), .val (.int v23), .val (.ref b25), .val (.ref b29), .val .null, .val (.ref b57), .val (.ref b63), .unset] [(.int (1 : Int32))])) _
            refine XS.istore X70.here hx rfl (hb hby at_186) rfl (l' := #[.val (.int fl), .val (.long cl), .second, .val (.int cc), .val (.int v3), .val (.int v7), .val (.int v11), .val (.int v15), .val (.int v19), .val (.int v23), .val (.ref b25), .val (.ref b29), .val .null, .val (.ref b57), .val (.ref b63), .val (.int (1 : Int32))]) rfl ?_
            show Steps p.tables e below (T70.setTop (mkF m 188 #[.val (.int fl), .val (.long cl), .second, .val (.int cc), .val (.int v3), .val (.int v7), .val (.int v11), .val (.int v15), .val (.int v19), .val (.int v23), .val (.ref b25), .val (.ref b29), .val .null, .val (.ref b57), .val (.ref b63), .val (.int (1 : Int32))] [])) _
            refine XS.goto X70.here hx rfl (pc0 := 188) (pc' := 194) rfl (hb hby at_188) (by decide) (by decide) ?_
            show Steps p.tables e below (T70.setTop (mkF m 194 #[.val (.int fl), .val (.long cl), .second, .val (.int cc), .val (.int v3), .val (.int v7), .val (.int v11), .val (.int v15), .val (.int v19), .val (.int v23), .val (.ref b25), .val (.ref b29), .val .null, .val (.ref b57), .val (.ref b63), .val (.int (1 : Int32))] [])) _
            refine XS.aload X70.here hx rfl (hb hby at_194) rfl rfl ?_
            show Steps p.tables e below (T70.setTop (mkF m 196 #[.val (.int fl), .val (.long cl), .second, .val (.int cc), .val (.int v3), .val (.int v7), .val (.int v11), .val (.int v15), .val (.int v19), .val (.int v23), .val (.ref b25), .val (.ref b29), .val .null, .val (.ref b57), .val (.ref b63), .val (.int (1 : Int32))] [(.ref b63)])) _
            refine st82.trans ?_
            show Steps p.tables e below (T82.setTop (mkF m 199 #[.val (.int fl), .val (.long cl), .second, .val (.int cc), .val (.int v3), .val (.int v7), .val (.int v11), .val (.int v15), .val (.int v19), .val (.int v23), .val (.ref b25), .val (.ref b29), .val .null, .val (.ref b57), .val (.ref b63), .val (.int (1 : Int32))] [(.int (own_cl (v7 &&& 1) (v3 &&& 1)))])) _
            refine XS.iload X82.here hx rfl (hb hby at_199) rfl ?_
            show Steps p.tables e below (T82.setTop (mkF m 201 #[.val (.int fl), .val (.long cl), .second, .val (.int cc), .val (.int v3), .val (.int v7), .val (.int v11), .val (.int v15), .val (.int v19), .val (.int v23), .val (.ref b25), .val (.ref b29), .val .null, .val (.ref b57), .val (.ref b63), .val (.int (1 : Int32))] [(.int (1 : Int32)), (.int (own_cl (v7 &&& 1) (v3 &&& 1)))])) _
            refine XS.icmpNo X82.here hx rfl (hb hby at_201) rfl (teq (show own_cl (v7 &&& 1) (v3 &&& 1) = (1 : Int32) from by rw [bv7, bv3]; unfold own_cl; rw [if_neg hc80])).2 ?_
            show Steps p.tables e below (T82.setTop (mkF m 204 #[.val (.int fl), .val (.long cl), .second, .val (.int cc), .val (.int v3), .val (.int v7), .val (.int v11), .val (.int v15), .val (.int v19), .val (.int v23), .val (.ref b25), .val (.ref b29), .val .null, .val (.ref b57), .val (.ref b63), .val (.int (1 : Int32))] [])) _
            refine XS.iconst X82.here hx rfl (hb hby at_204) ?_
            show Steps p.tables e below (T82.setTop (mkF m 205 #[.val (.int fl), .val (.long cl), .second, .val (.int cc), .val (.int v3), .val (.int v7), .val (.int v11), .val (.int v15), .val (.int v19), .val (.int v23), .val (.ref b25), .val (.ref b29), .val .null, .val (.ref b57), .val (.ref b63), .val (.int (1 : Int32))] [(.int (1 : Int32))])) _
            refine XS.goto X82.here hx rfl (pc0 := 205) (pc' := 209) rfl (hb hby at_205) (by decide) (by decide) ?_
            show Steps p.tables e below (T82.setTop (mkF m 209 #[.val (.int fl), .val (.long cl), .second, .val (.int cc), .val (.int v3), .val (.int v7), .val (.int v11), .val (.int v15), .val (.int v19), .val (.int v23), .val (.ref b25), .val (.ref b29), .val .null, .val (.ref b57), .val (.ref b63), .val (.int (1 : Int32))] [(.int (1 : Int32))])) _
            exact retN X82 hx (t := .boolean) Bd.returns (by simp) (hb hby at_209) hr
          · show own_Q0 Z fl cl cc w h0 n0 _ T82.heap _
            rw [e82]
            exact ⟨rfl, N82⟩
      · obtain ⟨cq83, kq83, q83a, q83b, q83c⟩ := isOf hZ rfl Eo70
        obtain ⟨_, _, ⟨T83, L83, k83, n83⟩, -, X83, ⟨Lc83, hQ83, l83, y83, z83⟩, st83⟩ := X70.virtualBack hx (y := (⟨"com/example/hatchd/hatchd/server/RequestReader$Request", "closes", "()Z"⟩ : MethodName)) (z := (⟨"com/example/hatchd/hatchd/server/RequestReader$Request", "closes", "()Z"⟩ : MethodName)) hown (mvT hZ (hw _ (List.mem_of_getElem? (i := 51) rfl))) (mvT hZ (hw _ (List.mem_of_getElem? (i := 52) rfl))) (notFace_of_selects (args := #[]) (mvT hZ (hw _ (List.mem_of_getElem? (i := 54) rfl)))) (mvT hZ (hw _ (List.mem_of_getElem? (i := 54) rfl))) (mvT hZ (hw _ (List.mem_of_getElem? (i := 53) rfl))) (by decide) (backOf (W := 0) (rm7 l Z a0 hw [] b63 (v7 &&& 1) (v3 &&& 1) T70.heap n0 z75 Fc70 Fh70) hZ (hw _ (List.mem_of_getElem? (i := 55) rfl)) (hw _ (List.mem_of_getElem? (i := 28) rfl)) (by decide) (by decide)) q83a q83c (g := (mkF m 196 #[.val (.int fl), .val (.long cl), .second, .val (.int cc), .val (.int v3), .val (.int v7), .val (.int v11), .val (.int v15), .val (.int v19), .val (.int v23), .val (.ref b25), .val (.ref b29), .val .null, .val (.ref b57), .val (.ref b63), .val (.int (1 : Int32))] [(.ref b63)])) rfl (by rw [hml]; rfl) (Steps.refl _) (argsL := []) (rest := []) (lenOf pd_6 rfl) rfl (by show 2 * 0 + _ ≤ _; exact Nat.le_of_eq rfl) (hb hby at_196) (fun _ _ => ⟨rfl, rfl, (by decide : 6 + 0 ≤ _), (by decide : 20 + 0 ≤ _)⟩)
        dsimp only [Pt.U, Pt.locs, Pt.cells, Pt.slots] at X83 l83 y83 z83 st83 hQ83
        subst l83 y83 z83
        obtain ⟨rfl, N83q, e83⟩ := hQ83
        have N83 := Fr.app N70 N83q
        obtain ⟨fs, hr, hrun, hended, hW, hsame⟩ := X83.leave (v := some (.int (1 : Int32))) (fun h => by rw [Bd.returns] at h; cases h)
        refine ⟨_, _, k77 _ ?_, hrun, hended, _, _, rfl, ?_, ⟨_, rfl⟩, hW, hsame.mono (by decide) (by decide)⟩
        · show Steps p.tables e below (T70.setTop (mkF m 171 #[.val (.int fl), .val (.long cl), .second, .val (.int cc), .val (.int v3), .val (.int v7), .val (.int v11), .val (.int v15), .val (.int v19), .val (.int v23), .val (.ref b25), .val (.ref b29), .val .null, .val (.ref b57), .val (.ref b63), .unset] [(.int v3)])) _
          refine XS.ifNo X70.here hx rfl (hb hby at_171) rfl ((if0 _ _).trans (feq hc78).1) ?_
          show Steps p.tables e below (T70.setTop (mkF m 174 #[.val (.int fl), .val (.long cl), .second, .val (.int cc), .val (.int v3), .val (.int v7), .val (.int v11), .val (.int v15), .val (.int v19), .val (.int v23), .val (.ref b25), .val (.ref b29), .val .null, .val (.ref b57), .val (.ref b63), .unset] [])) _
          refine XS.iconst X70.here hx rfl (hb hby at_174) ?_
          show Steps p.tables e below (T70.setTop (mkF m 175 #[.val (.int fl), .val (.long cl), .second, .val (.int cc), .val (.int v3), .val (.int v7), .val (.int v11), .val (.int v15), .val (.int v19), .val (.int v23), .val (.ref b25), .val (.ref b29), .val .null, .val (.ref b57), .val (.ref b63), .unset] [(.int (1 : Int32))])) _
          refine XS.istore X70.here hx rfl (hb hby at_175) rfl (l' := #[.val (.int fl), .val (.long cl), .second, .val (.int cc), .val (.int v3), .val (.int v7), .val (.int v11), .val (.int v15), .val (.int v19), .val (.int v23), .val (.ref b25), .val (.ref b29), .val .null, .val (.ref b57), .val (.ref b63), .val (.int (1 : Int32))]) rfl ?_
          show Steps p.tables e below (T70.setTop (mkF m 177 #[.val (.int fl), .val (.long cl), .second, .val (.int cc), .val (.int v3), .val (.int v7), .val (.int v11), .val (.int v15), .val (.int v19), .val (.int v23), .val (.ref b25), .val (.ref b29), .val .null, .val (.ref b57), .val (.ref b63), .val (.int (1 : Int32))] [])) _
          refine XS.goto X70.here hx rfl (pc0 := 177) (pc' := 194) rfl (hb hby at_177) (by decide) (by decide) ?_
          show Steps p.tables e below (T70.setTop (mkF m 194 #[.val (.int fl), .val (.long cl), .second, .val (.int cc), .val (.int v3), .val (.int v7), .val (.int v11), .val (.int v15), .val (.int v19), .val (.int v23), .val (.ref b25), .val (.ref b29), .val .null, .val (.ref b57), .val (.ref b63), .val (.int (1 : Int32))] [])) _
          refine XS.aload X70.here hx rfl (hb hby at_194) rfl rfl ?_
          show Steps p.tables e below (T70.setTop (mkF m 196 #[.val (.int fl), .val (.long cl), .second, .val (.int cc), .val (.int v3), .val (.int v7), .val (.int v11), .val (.int v15), .val (.int v19), .val (.int v23), .val (.ref b25), .val (.ref b29), .val .null, .val (.ref b57), .val (.ref b63), .val (.int (1 : Int32))] [(.ref b63)])) _
          refine st83.trans ?_
          show Steps p.tables e below (T83.setTop (mkF m 199 #[.val (.int fl), .val (.long cl), .second, .val (.int cc), .val (.int v3), .val (.int v7), .val (.int v11), .val (.int v15), .val (.int v19), .val (.int v23), .val (.ref b25), .val (.ref b29), .val .null, .val (.ref b57), .val (.ref b63), .val (.int (1 : Int32))] [(.int (own_cl (v7 &&& 1) (v3 &&& 1)))])) _
          refine XS.iload X83.here hx rfl (hb hby at_199) rfl ?_
          show Steps p.tables e below (T83.setTop (mkF m 201 #[.val (.int fl), .val (.long cl), .second, .val (.int cc), .val (.int v3), .val (.int v7), .val (.int v11), .val (.int v15), .val (.int v19), .val (.int v23), .val (.ref b25), .val (.ref b29), .val .null, .val (.ref b57), .val (.ref b63), .val (.int (1 : Int32))] [(.int (1 : Int32)), (.int (own_cl (v7 &&& 1) (v3 &&& 1)))])) _
          refine XS.icmpNo X83.here hx rfl (hb hby at_201) rfl (teq (show own_cl (v7 &&& 1) (v3 &&& 1) = (1 : Int32) from by rw [bv7, bv3]; unfold own_cl; rw [if_neg hc78]; split <;> rfl)).2 ?_
          show Steps p.tables e below (T83.setTop (mkF m 204 #[.val (.int fl), .val (.long cl), .second, .val (.int cc), .val (.int v3), .val (.int v7), .val (.int v11), .val (.int v15), .val (.int v19), .val (.int v23), .val (.ref b25), .val (.ref b29), .val .null, .val (.ref b57), .val (.ref b63), .val (.int (1 : Int32))] [])) _
          refine XS.iconst X83.here hx rfl (hb hby at_204) ?_
          show Steps p.tables e below (T83.setTop (mkF m 205 #[.val (.int fl), .val (.long cl), .second, .val (.int cc), .val (.int v3), .val (.int v7), .val (.int v11), .val (.int v15), .val (.int v19), .val (.int v23), .val (.ref b25), .val (.ref b29), .val .null, .val (.ref b57), .val (.ref b63), .val (.int (1 : Int32))] [(.int (1 : Int32))])) _
          refine XS.goto X83.here hx rfl (pc0 := 205) (pc' := 209) rfl (hb hby at_205) (by decide) (by decide) ?_
          show Steps p.tables e below (T83.setTop (mkF m 209 #[.val (.int fl), .val (.long cl), .second, .val (.int cc), .val (.int v3), .val (.int v7), .val (.int v11), .val (.int v15), .val (.int v19), .val (.int v23), .val (.ref b25), .val (.ref b29), .val .null, .val (.ref b57), .val (.ref b63), .val (.int (1 : Int32))] [(.int (1 : Int32))])) _
          exact retN X83 hx (t := .boolean) Bd.returns (by simp) (hb hby at_209) hr
        · show own_Q0 Z fl cl cc w h0 n0 _ T83.heap _
          rw [e83]
          exact ⟨rfl, N83⟩
  · obtain ⟨_, _, ⟨T84, L84, k84, n84⟩, -, X84, ⟨Lc84, hQ84, l84, y84, z84⟩, st84⟩ := Jvm.LawKit.callS X29 hx (y := (⟨"java/lang/String", "valueOf", "(C)Ljava/lang/String;"⟩ : MethodName)) hown (mvT hZ (hw _ (List.mem_of_getElem? (i := 0) rfl))) (mvT hZ (hw _ (List.mem_of_getElem? (i := 1) rfl))) (mvT hZ (hw _ (List.mem_of_getElem? (i := 2) rfl))) (mvT hZ (hw _ (List.mem_of_getElem? (i := 3) rfl))) (by decide) (backOf (W := 0) (rm1 l Z a0 hw [] ((((cc.toUInt32 >>> ((16 : Int32) &&& 31).toUInt32).toInt32) &&& (255 : Int32)).toUInt32.toUInt16.toUInt32.toInt32) w T29.heap n0 z32 f30 hw0 (by rw [i2c_mask]; exact own_byte _)) hZ (hw _ (List.mem_of_getElem? (i := 3) rfl)) (hw _ (List.mem_of_getElem? (i := 2) rfl)) (by decide) (by decide)) (g := (mkF m 120 #[.val (.int fl), .val (.long cl), .second, .val (.int cc), .val (.int v3), .val (.int v7), .val (.int v11), .val (.int v15), .val (.int v19), .val (.int v23), .val (.ref b25), .val (.ref b29), .unset, .unset, .unset, .unset] [(.int ((((cc.toUInt32 >>> ((16 : Int32) &&& 31).toUInt32).toInt32) &&& (255 : Int32)).toUInt32.toUInt16.toUInt32.toInt32))])) rfl (by rw [hml]; rfl) (argsL := [(.int ((((cc.toUInt32 >>> ((16 : Int32) &&& 31).toUInt32).toInt32) &&& (255 : Int32)).toUInt32.toUInt16.toUInt32.toInt32))]) (rest := []) (lenOf pd_0 rfl) rfl (by show 2 * 0 + _ ≤ _; exact Nat.le_of_eq rfl) (hb hby at_120) (fun _ _ => ⟨rfl, rfl, (by decide : 4 + 2 ≤ _), (by decide : 10 + 5 ≤ _)⟩)
    dsimp only [Pt.U, Pt.locs, Pt.cells, Pt.slots] at X84 l84 y84 z84 st84 hQ84
    subst l84 y84 z84
    obtain ⟨b84, rfl, N84q, K84, gb84, Es84⟩ := hQ84
    have N84 := Fr.app N29 N84q
    have ne_b25_b84 : b25 ≠ b84 := Nat.ne_of_lt (Nat.lt_of_lt_of_le f31.lt gb84)
    have ne_b29_b84 : b29 ≠ b84 := Nat.ne_of_lt (Nat.lt_of_lt_of_le Es29.lt gb84)
    have g_b84 : n0 ≤ b84 := Nat.le_trans z32 gb84
    have sz_b84 : h0.size ≤ b84 := Nat.le_trans kp33.1 gb84
    have f85 := own_sta_keep f30 K84
    have f86 := f31.keep K84
    have f87 := Es29.keep K84
    have z88 := Nat.le_trans z32 K84.1
    have kp89 := Keep.trans kp33 K84 all0
    have k90 : ∀ tq, Steps p.tables e below (T84.setTop (mkF m 131 #[.val (.int fl), .val (.long cl), .second, .val (.int cc), .val (.int v3), .val (.int v7), .val (.int v11), .val (.int v15), .val (.int v19), .val (.int v23), .val (.ref b25), .val (.ref b29), .val (.ref b84), .unset, .unset, .unset] [(.int v23)])) tq → Steps p.tables e below (s₁.setTop (entryFrame m #[(.int fl), (.long cl), (.int cc)] maxLocals)) tq := by
      intro tq kt
      refine k34 tq ?_
      show Steps p.tables e below (T29.setTop (mkF m 108 #[.val (.int fl), .val (.long cl), .second, .val (.int cc), .val (.int v3), .val (.int v7), .val (.int v11), .val (.int v15), .val (.int v19), .val (.int v23), .val (.ref b25), .val (.ref b29), .unset, .unset, .unset, .unset] [(.int v19)])) _
      refine XS.ifNo X29.here hx rfl (hb hby at_108) rfl ((if0 _ _).trans (feq hc35).1) ?_
      show Steps p.tables e below (T29.setTop (mkF m 111 #[.val (.int fl), .val (.long cl), .second, .val (.int cc), .val (.int v3), .val (.int v7), .val (.int v11), .val (.int v15), .val (.int v19), .val (.int v23), .val (.ref b25), .val (.ref b29), .unset, .unset, .unset, .unset] [])) _
      refine XS.iloadN X29.here hx rfl (hb hby at_111) rfl ?_
      show Steps p.tables e below (T29.setTop (mkF m 112 #[.val (.int fl), .val (.long cl), .second, .val (.int cc), .val (.int v3), .val (.int v7), .val (.int v11), .val (.int v15), .val (.int v19), .val (.int v23), .val (.ref b25), .val (.ref b29), .unset, .unset, .unset, .unset] [(.int cc)])) _
      refine XS.bipush X29.here hx rfl (hb hby at_112) ?_
      show Steps p.tables e below (T29.setTop (mkF m 114 #[.val (.int fl), .val (.long cl), .second, .val (.int cc), .val (.int v3), .val (.int v7), .val (.int v11), .val (.int v15), .val (.int v19), .val (.int v23), .val (.ref b25), .val (.ref b29), .unset, .unset, .unset, .unset] [(.int (16 : Int32)), (.int cc)])) _
      refine XS.iushr X29.here hx rfl (hb hby at_114) rfl ?_
      show Steps p.tables e below (T29.setTop (mkF m 115 #[.val (.int fl), .val (.long cl), .second, .val (.int cc), .val (.int v3), .val (.int v7), .val (.int v11), .val (.int v15), .val (.int v19), .val (.int v23), .val (.ref b25), .val (.ref b29), .unset, .unset, .unset, .unset] [(.int ((cc.toUInt32 >>> ((16 : Int32) &&& 31).toUInt32).toInt32))])) _
      refine XS.sipush X29.here hx rfl (hb hby at_115) ?_
      show Steps p.tables e below (T29.setTop (mkF m 118 #[.val (.int fl), .val (.long cl), .second, .val (.int cc), .val (.int v3), .val (.int v7), .val (.int v11), .val (.int v15), .val (.int v19), .val (.int v23), .val (.ref b25), .val (.ref b29), .unset, .unset, .unset, .unset] [(.int (255 : Int32)), (.int ((cc.toUInt32 >>> ((16 : Int32) &&& 31).toUInt32).toInt32))])) _
      refine XS.iand X29.here hx rfl (hb hby at_118) rfl ?_
      show Steps p.tables e below (T29.setTop (mkF m 119 #[.val (.int fl), .val (.long cl), .second, .val (.int cc), .val (.int v3), .val (.int v7), .val (.int v11), .val (.int v15), .val (.int v19), .val (.int v23), .val (.ref b25), .val (.ref b29), .unset, .unset, .unset, .unset] [(.int (((cc.toUInt32 >>> ((16 : Int32) &&& 31).toUInt32).toInt32) &&& (255 : Int32)))])) _
      refine XS.i2c X29.here hx rfl (hb hby at_119) rfl ?_
      show Steps p.tables e below (T29.setTop (mkF m 120 #[.val (.int fl), .val (.long cl), .second, .val (.int cc), .val (.int v3), .val (.int v7), .val (.int v11), .val (.int v15), .val (.int v19), .val (.int v23), .val (.ref b25), .val (.ref b29), .unset, .unset, .unset, .unset] [(.int ((((cc.toUInt32 >>> ((16 : Int32) &&& 31).toUInt32).toInt32) &&& (255 : Int32)).toUInt32.toUInt16.toUInt32.toInt32))])) _
      refine st84 _ ?_
      show Steps p.tables e below (T84.setTop (mkF m 123 #[.val (.int fl), .val (.long cl), .second, .val (.int cc), .val (.int v3), .val (.int v7), .val (.int v11), .val (.int v15), .val (.int v19), .val (.int v23), .val (.ref b25), .val (.ref b29), .unset, .unset, .unset, .unset] [(.ref b84)])) _
      refine XS.goto X84.here hx rfl (pc0 := 123) (pc' := 127) rfl (hb hby at_123) (by decide) (by decide) ?_
      show Steps p.tables e below (T84.setTop (mkF m 127 #[.val (.int fl), .val (.long cl), .second, .val (.int cc), .val (.int v3), .val (.int v7), .val (.int v11), .val (.int v15), .val (.int v19), .val (.int v23), .val (.ref b25), .val (.ref b29), .unset, .unset, .unset, .unset] [(.ref b84)])) _
      refine XS.astore X84.here hx rfl (hb hby at_127) rfl rfl (l' := #[.val (.int fl), .val (.long cl), .second, .val (.int cc), .val (.int v3), .val (.int v7), .val (.int v11), .val (.int v15), .val (.int v19), .val (.int v23), .val (.ref b25), .val (.ref b29), .val (.ref b84), .unset, .unset, .unset]) rfl ?_
      show Steps p.tables e below (T84.setTop (mkF m 129 #[.val (.int fl), .val (.long cl), .second, .val (.int cc), .val (.int v3), .val (.int v7), .val (.int v11), .val (.int v15), .val (.int v19), .val (.int v23), .val (.ref b25), .val (.ref b29), .val (.ref b84), .unset, .unset, .unset] [])) _
      refine XS.iload X84.here hx rfl (hb hby at_129) rfl ?_
      exact kt
    by_cases hc91 : v23 = (0 : Int32)
    · obtain ⟨T92, h92, X92, e92, E92, A92, D92, U92, st92⟩ := newO X84 hx hZ hown (hw _ (List.mem_of_getElem? (i := 26) rfl)) (hw _ (List.mem_of_getElem? (i := 27) rfl)) (hw _ (List.mem_of_getElem? (i := 28) rfl)) rfl (g := (mkF m 143 #[.val (.int fl), .val (.long cl), .second, .val (.int cc), .val (.int v3), .val (.int v7), .val (.int v11), .val (.int v15), .val (.int v19), .val (.int v23), .val (.ref b25), .val (.ref b29), .val (.ref b84), .val .null, .unset, .unset] [])) rfl (hb hby at_143) (by decide) (by decide)
      obtain ⟨b92, g92⟩ : ∃ z, z = T84.heap.size := ⟨_, rfl⟩
      rw [← g92] at A92 D92 U92 st92
      have ne_b25_b92 : b25 ≠ b92 := Nat.ne_of_lt (Nat.lt_of_lt_of_le f86.lt (Nat.le_of_eq g92.symm))
      have ne_b29_b92 : b29 ≠ b92 := Nat.ne_of_lt (Nat.lt_of_lt_of_le f87.lt (Nat.le_of_eq g92.symm))
      have ne_b84_b92 : b84 ≠ b92 := Nat.ne_of_lt (Nat.lt_of_lt_of_le Es84.lt (Nat.le_of_eq g92.symm))
      have g_b92 : n0 ≤ b92 := Nat.le_trans z88 (Nat.le_of_eq g92.symm)
      have sz_b92 : h0.size ≤ b92 := Nat.le_trans kp89.1 (Nat.le_of_eq g92.symm)
      have f93 := f85.ext E92
      have f94 := f86.ext E92
      have f95 := f87.ext E92
      have f96 := Es84.ext E92
      have z97 := Nat.le_trans z88 E92.1
      have kp98 := kp89.ext E92
      have F_method_b92 : Fld Z h92 b92 "com/example/hatchd/hatchd/server/RequestReader$Request" "method" "Ljava/lang/String;" .null := D92 (Or.inr (hw _ (List.mem_of_getElem? (i := 34) rfl))) (ty := (.object "java/lang/String")) (by decide)
      have F_path_b92 : Fld Z h92 b92 "com/example/hatchd/hatchd/server/RequestReader$Request" "path" "Ljava/lang/String;" .null := D92 (Or.inr (hw _ (List.mem_of_getElem? (i := 36) rfl))) (ty := (.object "java/lang/String")) (by decide)
      have F_query_b92 : Fld Z h92 b92 "com/example/hatchd/hatchd/server/RequestReader$Request" "query" "Ljava/lang/String;" .null := D92 (Or.inr (hw _ (List.mem_of_getElem? (i := 38) rfl))) (ty := (.object "java/lang/String")) (by decide)
      have F_http10_b92 : Fld Z h92 b92 "com/example/hatchd/hatchd/server/RequestReader$Request" "http10" "Z" (.int (0 : Int32)) := D92 (Or.inr (hw _ (List.mem_of_getElem? (i := 40) rfl))) (ty := .boolean) (by decide)
      have F_close_b92 : Fld Z h92 b92 "com/example/hatchd/hatchd/server/RequestReader$Request" "close" "Z" (.int (0 : Int32)) := D92 (Or.inr (hw _ (List.mem_of_getElem? (i := 42) rfl))) (ty := .boolean) (by decide)
      have F_chunked_b92 : Fld Z h92 b92 "com/example/hatchd/hatchd/server/RequestReader$Request" "chunked" "Z" (.int (0 : Int32)) := D92 (Or.inr (hw _ (List.mem_of_getElem? (i := 44) rfl))) (ty := .boolean) (by decide)
      have F_contentLength_b92 : Fld Z h92 b92 "com/example/hatchd/hatchd/server/RequestReader$Request" "contentLength" "J" (.long (0 : Int64)) := D92 (Or.inr (hw _ (List.mem_of_getElem? (i := 46) rfl))) (ty := .long) (by decide)
      have F_expectsContinue_b92 : Fld Z h92 b92 "com/example/hatchd/hatchd/server/RequestReader$Request" "expectsContinue" "Z" (.int (0 : Int32)) := D92 (Or.inr (hw _ (List.mem_of_getElem? (i := 48) rfl))) (ty := .boolean) (by decide)
      have F_body_b92 : Fld Z h92 b92 "com/example/hatchd/hatchd/server/RequestReader$Request" "body" "[B" .null := D92 (Or.inr (hw _ (List.mem_of_getElem? (i := 50) rfl))) (ty := (.array .byte)) (by decide)
      obtain ⟨_, _, ⟨T99, L99, k99, n99⟩, -, X99, ⟨Lc99, hQ99, l99, y99, z99⟩, st99⟩ := X92.specialBack hx (y := (⟨"com/example/hatchd/hatchd/server/RequestReader$Request", "<init>", "(Ljava/lang/String;Ljava/lang/String;Ljava/lang/String;ZZZJZ[B)V"⟩ : MethodName)) rfl hown (mvT hZ (hw _ (List.mem_of_getElem? (i := 29) rfl))) (mvT hZ (hw _ (List.mem_of_getElem? (i := 30) rfl))) (mvT hZ (hw _ (List.mem_of_getElem? (i := 31) rfl))) (by decide) (backOf (W := 1) (rm6q l Z a0 hw [] b92 b25 b29 b84 v3 v7 v11 cl v15 h92 n0 z97 A92 F_method_b92 F_path_b92 F_query_b92 F_http10_b92 F_close_b92 F_chunked_b92 F_contentLength_b92 F_expectsContinue_b92 F_body_b92 g_b92) hZ (hw _ (List.mem_of_getElem? (i := 31) rfl)) (hw _ (List.mem_of_getElem? (i := 28) rfl)) (by decide) (by decide)) (g := (mkF m 164 #[.val (.int fl), .val (.long cl), .second, .val (.int cc), .val (.int v3), .val (.int v7), .val (.int v11), .val (.int v15), .val (.int v19), .val (.int v23), .val (.ref b25), .val (.ref b29), .val (.ref b84), .val .null, .unset, .unset] [.null, (.int v15), (.long cl), (.int v11), (.int v7), (.int v3), (.ref b84), (.ref b29), (.ref b25), (.ref b92), (.ref b92)])) rfl (by rw [hml]; rfl) (Steps.refl _) (a := b92) (argsL := [(.ref b25), (.ref b29), (.ref b84), (.int v3), (.int v7), (.int v11), (.long cl), (.int v15), .null]) (rest := [(.ref b92)]) (lenOf pd_5 rfl) rfl (by show 2 * 0 + _ ≤ _; exact Nat.le_of_eq rfl) (hb hby at_164) (fun _ _ => ⟨rfl, e92, (by decide : 7 + 0 ≤ _), (by decide : 24 + 0 ≤ _)⟩)
      dsimp only [Pt.U, Pt.locs, Pt.cells, Pt.slots] at X99 l99 y99 z99 st99 hQ99
      subst l99 y99 z99
      obtain ⟨rfl, N99q, K99, Eo99, Fh99, Fc99⟩ := hQ99
      have N99 := Fr.app N84 N99q
      have f100 := f94.keep K99
      have f101 := f95.keep K99
      have f102 := f96.keep K99
      have f103 := A92.keep K99
      have z104 := Nat.le_trans z97 K99.1
      have kp105 := Keep.trans kp98 K99 (allS (Or.inr sz_b92) all0)
      have k106 : ∀ tq, Steps p.tables e below (T99.setTop (mkF m 171 #[.val (.int fl), .val (.long cl), .second, .val (.int cc), .val (.int v3), .val (.int v7), .val (.int v11), .val (.int v15), .val (.int v19), .val (.int v23), .val (.ref b25), .val (.ref b29), .val (.ref b84), .val .null, .val (.ref b92), .unset] [(.int v3)])) tq → Steps p.tables e below (s₁.setTop (entryFrame m #[(.int fl), (.long cl), (.int cc)] maxLocals)) tq := by
        intro tq kt
        refine k90 tq ?_
        show Steps p.tables e below (T84.setTop (mkF m 131 #[.val (.int fl), .val (.long cl), .second, .val (.int cc), .val (.int v3), .val (.int v7), .val (.int v11), .val (.int v15), .val (.int v19), .val (.int v23), .val (.ref b25), .val (.ref b29), .val (.ref b84), .unset, .unset, .unset] [(.int v23)])) _
        refine XS.ifYes X84.here hx rfl (pc0 := 131) (pc' := 140) rfl (hb hby at_131) rfl ((if0 _ _).trans (teq hc91).1) (by decide) (by decide) ?_
        show Steps p.tables e below (T84.setTop (mkF m 140 #[.val (.int fl), .val (.long cl), .second, .val (.int cc), .val (.int v3), .val (.int v7), .val (.int v11), .val (.int v15), .val (.int v19), .val (.int v23), .val (.ref b25), .val (.ref b29), .val (.ref b84), .unset, .unset, .unset] [])) _
        refine XS.aconstNull X84.here hx rfl (hb hby at_140) ?_
        show Steps p.tables e below (T84.setTop (mkF m 141 #[.val (.int fl), .val (.long cl), .second, .val (.int cc), .val (.int v3), .val (.int v7), .val (.int v11), .val (.int v15), .val (.int v19), .val (.int v23), .val (.ref b25), .val (.ref b29), .val (.ref b84), .unset, .unset, .unset] [.null])) _
        refine XS.astore X84.here hx rfl (hb hby at_141) rfl rfl (l' := #[.val (.int fl), .val (.long cl), .second, .val (.int cc), .val (.int v3), .val (.int v7), .val (.int v11), .val (.int v15), .val (.int v19), .val (.int v23), .val (.ref b25), .val (.ref b29), .val (.ref b84), .val .null, .unset, .unset]) rfl ?_
        show Steps p.tables e below (T84.setTop (mkF m 143 #[.val (.int fl), .val (.long cl), .second, .val (.int cc), .val (.int v3), .val (.int v7), .val (.int v11), .val (.int v15), .val (.int v19), .val (.int v23), .val (.ref b25), .val (.ref b29), .val (.ref b84), .val .null, .unset, .unset] [])) _
        refine st92 _ ?_
        show Steps p.tables e below (T92.setTop (mkF m 146 #[.val (.int fl), .val (.long cl), .second, .val (.int cc), .val (.int v3), .val (.int v7), .val (.int v11), .val (.int v15), .val (.int v19), .val (.int v23), .val (.ref b25), .val (.ref b29), .val (.ref b84), .val .null, .unset, .unset] [(.ref b92)])) _
        refine XS.dup X92.here hx rfl (hb hby at_146) rfl rfl ?_
        show Steps p.tables e below (T92.setTop (mkF m 147 #[.val (.int fl), .val (.long cl), .second, .val (.int cc), .val (.int v3), .val (.int v7), .val (.int v11), .val (.int v15), .val (.int v19), .val (.int v23), .val (.ref b25), .val (.ref b29), .val (.ref b84), .val .null, .unset, .unset] [(.ref b92), (.ref b92)])) _
        refine XS.aload X92.here hx rfl (hb hby at_147) rfl rfl ?_
        show Steps p.tables e below (T92.setTop (mkF m 149 #[.val (.int fl), .val (.long cl), .second, .val (.int cc), .val (.int v3), .val (.int v7), .val (.int v11), .val (.int v15), .val (.int v19), .val (.int v23), .val (.ref b25), .val (.ref b29), .val (.ref b84), .val .null, .unset, .unset] [(.ref b25), (.ref b92), (.ref b92)])) _
        refine XS.aload X92.here hx rfl (hb hby at_149) rfl rfl ?_
        show Steps p.tables e below (T92.setTop (mkF m 151 #[.val (.int fl), .val (.long cl), .second, .val (.int cc), .val (.int v3), .val (.int v7), .val (.int v11), .val (.int v15), .val (.int v19), .val (.int v23), .val (.ref b25), .val (.ref b29), .val (.ref b84), .val .null, .unset, .unset] [(.ref b29), (.ref b25), (.ref b92), (.ref b92)])) _
        refine XS.aload X92.here hx rfl (hb hby at_151) rfl rfl ?_
        show Steps p.tables e below (T92.setTop (mkF m 153 #[.val (.int fl), .val (.long cl), .second, .val (.int cc), .val (.int v3), .val (.int v7), .val (.int v11), .val (.int v15), .val (.int v19), .val (.int v23), .val (.ref b25), .val (.ref b29), .val (.ref b84), .val .null, .unset, .unset] [(.ref b84), (.ref b29), (.ref b25), (.ref b92), (.ref b92)])) _
        refine XS.iload X92.here hx rfl (hb hby at_153) rfl ?_
        show Steps p.tables e below (T92.setTop (mkF m 155 #[.val (.int fl), .val (.long cl), .second, .val (.int cc), .val (.int v3), .val (.int v7), .val (.int v11), .val (.int v15), .val (.int v19), .val (.int v23), .val (.ref b25), .val (.ref b29), .val (.ref b84), .val .null, .unset, .unset] [(.int v3), (.ref b84), (.ref b29), (.ref b25), (.ref b92), (.ref b92)])) _
        refine XS.iload X92.here hx rfl (hb hby at_155) rfl ?_
        show Steps p.tables e below (T92.setTop (mkF m 157 #[.val (.int fl), .val (.long cl), .second, .val (.int cc), .val (.int v3), .val (.int v7), .val (.int v11), .val (.int v15), .val (.int v19), .val (.int v23), .val (.ref b25), .val (.ref b29), .val (.ref b84), .val .null, .unset, .unset] [(.int v7), (.int v3), (.ref b84), (.ref b29), (.ref b25), (.ref b92), (.ref b92)])) _
        refine XS.iload X92.here hx rfl (hb hby at_157) rfl ?_
        show Steps p.tables e below (T92.setTop (mkF m 159 #[.val (.int fl), .val (.long cl), .second, .val (.int cc), .val (.int v3), .val (.int v7), .val (.int v11), .val (.int v15), .val (.int v19), .val (.int v23), .val (.ref b25), .val (.ref b29), .val (.ref b84), .val .null, .unset, .unset] [(.int v11), (.int v7), (.int v3), (.ref b84), (.ref b29), (.ref b25), (.ref b92), (.ref b92)])) _
        refine XS.lloadN X92.here hx rfl (hb hby at_159) rfl ?_
        show Steps p.tables e below (T92.setTop (mkF m 160 #[.val (.int fl), .val (.long cl), .second, .val (.int cc), .val (.int v3), .val (.int v7), .val (.int v11), .val (.int v15), .val (.int v19), .val (.int v23), .val (.ref b25), .val (.ref b29), .val (.ref b84), .val .null, .unset, .unset] [(.long cl), (.int v11), (.int v7), (.int v3), (.ref b84), (.ref b29), (.ref b25), (.ref b92), (.ref b92)])) _
        refine XS.iload X92.here hx rfl (hb hby at_160) rfl ?_
        show Steps p.tables e below (T92.setTop (mkF m 162 #[.val (.int fl), .val (.long cl), .second, .val (.int cc), .val (.int v3), .val (.int v7), .val (.int v11), .val (.int v15), .val (.int v19), .val (.int v23), .val (.ref b25), .val (.ref b29), .val (.ref b84), .val .null, .unset, .unset] [(.int v15), (.long cl), (.int v11), (.int v7), (.int v3), (.ref b84), (.ref b29), (.ref b25), (.ref b92), (.ref b92)])) _
        refine XS.aload X92.here hx rfl (hb hby at_162) rfl rfl ?_
        show Steps p.tables e below (T92.setTop (mkF m 164 #[.val (.int fl), .val (.long cl), .second, .val (.int cc), .val (.int v3), .val (.int v7), .val (.int v11), .val (.int v15), .val (.int v19), .val (.int v23), .val (.ref b25), .val (.ref b29), .val (.ref b84), .val .null, .unset, .unset] [.null, (.int v15), (.long cl), (.int v11), (.int v7), (.int v3), (.ref b84), (.ref b29), (.ref b25), (.ref b92), (.ref b92)])) _
        refine st99.trans ?_
        show Steps p.tables e below (T99.setTop (mkF m 167 #[.val (.int fl), .val (.long cl), .second, .val (.int cc), .val (.int v3), .val (.int v7), .val (.int v11), .val (.int v15), .val (.int v19), .val (.int v23), .val (.ref b25), .val (.ref b29), .val (.ref b84), .val .null, .unset, .unset] [(.ref b92)])) _
        refine XS.astore X99.here hx rfl (hb hby at_167) rfl rfl (l' := #[.val (.int fl), .val (.long cl), .second, .val (.int cc), .val (.int v3), .val (.int v7), .val (.int v11), .val (.int v15), .val (.int v19), .val (.int v23), .val (.ref b25), .val (.ref b29), .val (.ref b84), .val .null, .val (.ref b92), .unset]) rfl ?_
        show Steps p.tables e below (T99.setTop (mkF m 169 #[.val (.int fl), .val (.long cl), .second, .val (.int cc), .val (.int v3), .val (.int v7), .val (.int v11), .val (.int v15), .val (.int v19), .val (.int v23), .val (.ref b25), .val (.ref b29), .val (.ref b84), .val .null, .val (.ref b92), .unset] [])) _
        refine XS.iload X99.here hx rfl (hb hby at_169) rfl ?_
        exact kt
      by_cases hc107 : v3 = (0 : Int32)
      · have k108 : ∀ tq, Steps p.tables e below (T99.setTop (mkF m 182 #[.val (.int fl), .val (.long cl), .second, .val (.int cc), .val (.int v3), .val (.int v7), .val (.int v11), .val (.int v15), .val (.int v19), .val (.int v23), .val (.ref b25), .val (.ref b29), .val (.ref b84), .val .null, .val (.ref b92), .unset] [(.int v7)])) tq → Steps p.tables e below (s₁.setTop (entryFrame m #[(.int fl), (.long cl), (.int cc)] maxLocals)) tq := by
          intro tq kt
          refine k106 tq ?_
          show Steps p.tables e below (T99.setTop (mkF m 171 #[.val (.int fl), .val (.long cl), .second, .val (.int cc), .val (.int v3), .val (.int v7), .val (.int v11), .val (.int v15), .val (.int v19), .val (.int v23), .val (.ref b25), .val (.ref b29), .val (.ref b84), .val .null, .val (.ref b92), .unset] [(.int v3)])) _
          refine XS.ifYes X99.here hx rfl (pc0 := 171) (pc' := 180) rfl (hb hby at_171) rfl ((if0 _ _).trans (teq hc107).1) (by decide) (by decide) ?_
          show Steps p.tables e below (T99.setTop (mkF m 180 #[.val (.int fl), .val (.long cl), .second, .val (.int cc), .val (.int v3), .val (.int v7), .val (.int v11), .val (.int v15), .val (.int v19), .val (.int v23), .val (.ref b25), .val (.ref b29), .val (.ref b84), .val .null, .val (.ref b92), .unset] [])) _
          refine XS.iload X99.here hx rfl (hb hby at_180) rfl ?_
          exact kt
        by_cases hc109 : v7 = (0 : Int32)
        · obtain ⟨cq110, kq110, q110a, q110b, q110c⟩ := isOf hZ rfl Eo99
          obtain ⟨_, _, ⟨T110, L110, k110, n110⟩, -, X110, ⟨Lc110, hQ110, l110, y110, z110⟩, st110⟩ := X99.virtualBack hx (y := (⟨"com/example/hatchd/hatchd/server/RequestReader$Request", "closes", "()Z"⟩ : MethodName)) (z := (⟨"com/example/hatchd/hatchd/server/RequestReader$Request", "closes", "()Z"⟩ : MethodName)) hown (mvT hZ (hw _ (List.mem_of_getElem? (i := 51) rfl))) (mvT hZ (hw _ (List.mem_of_getElem? (i := 52) rfl))) (notFace_of_selects (args := #[]) (mvT hZ (hw _ (List.mem_of_getElem? (i := 54) rfl)))) (mvT hZ (hw _ (List.mem_of_getElem? (i := 54) rfl))) (mvT hZ (hw _ (List.mem_of_getElem? (i := 53) rfl))) (by decide) (backOf (W := 0) (rm7 l Z a0 hw [] b92 (v7 &&& 1) (v3 &&& 1) T99.heap n0 z104 Fc99 Fh99) hZ (hw _ (List.mem_of_getElem? (i := 55) rfl)) (hw _ (List.mem_of_getElem? (i := 28) rfl)) (by decide) (by decide)) q110a q110c (g := (mkF m 196 #[.val (.int fl), .val (.long cl), .second, .val (.int cc), .val (.int v3), .val (.int v7), .val (.int v11), .val (.int v15), .val (.int v19), .val (.int v23), .val (.ref b25), .val (.ref b29), .val (.ref b84), .val .null, .val (.ref b92), .val (.int (0 : Int32))] [(.ref b92)])) rfl (by rw [hml]; rfl) (Steps.refl _) (argsL := []) (rest := []) (lenOf pd_6 rfl) rfl (by show 2 * 0 + _ ≤ _; exact Nat.le_of_eq rfl) (hb hby at_196) (fun _ _ => ⟨rfl, rfl, (by decide : 7 + 0 ≤ _), (by decide : 24 + 0 ≤ _)⟩)
          dsimp only [Pt.U, Pt.locs, Pt.cells, Pt.slots] at X110 l110 y110 z110 st110 hQ110
          subst l110 y110 z110
          obtain ⟨rfl, N110q, e110⟩ := hQ110
          have N110 := Fr.app N99 N110q
          obtain ⟨fs, hr, hrun, hended, hW, hsame⟩ := X110.leave (v := some (.int (1 : Int32))) (fun h => by rw [Bd.returns] at h; cases h)
          refine ⟨_, _, k108 _ ?_, hrun, hended, _, _, rfl, ?_, ⟨_, rfl⟩, hW, hsame.mono (by decide) (by decide)⟩
          · show Steps p.tables e below (T99.setTop (mkF m 182 #[.val (.int fl), .val (.long cl), .second, .val (.int cc), .val (.int v3), .val (.int v7), .val (.int v11), .val (.int v15), .val (.int v19), .val (.int v23), .val (.ref b25), .val (.ref b29), .val (.ref b84), .val .null, .val (.ref b92), .unset] [(.int v7)])) _
            refine XS.ifYes X99.here hx rfl (pc0 := 182) (pc' := 191) rfl (hb hby at_182) rfl ((if0 _ _).trans (teq hc109).1) (by decide) (by decide) ?_
            show Steps p.tables e below (T99.setTop (mkF m 191 #[.val (.int fl), .val (.long cl), .second, .val (.int cc), .val (.int v3), .val (.int v7), .val (.int v11), .val (.int v15), .val (.int v19), .val (.int v23), .val (.ref b25), .val (.ref b29), .val (.ref b84), .val .null, .val (.ref b92), .unset] [])) _
            refine XS.iconst X99.here hx rfl (hb hby at_191) ?_
            show Steps p.tables e below (T99.setTop (mkF m 192 #[.val (.int fl), .val (.long cl), .second, .val (.int cc), .val (.int v3), .val (.int v7), .val (.int v11), .val (.int v15), .val (.int v19), .val (.int v23), .val (.ref b25), .val (.ref b29), .val (.ref b84), .val .null, .val (.ref b92), .unset] [(.int (0 : Int32))])) _
            refine XS.istore X99.here hx rfl (hb hby at_192) rfl (l' := #[.val (.int fl), .val (.long cl), .second, .val (.int cc), .val (.int v3), .val (.int v7), .val (.int v11), .val (.int v15), .val (.int v19), .val (.int v23), .val (.ref b25), .val (.ref b29), .val (.ref b84), .val .null, .val (.ref b92), .val (.int (0 : Int32))]) rfl ?_
            show Steps p.tables e below (T99.setTop (mkF m 194 #[.val (.int fl), .val (.long cl), .second, .val (.int cc), .val (.int v3), .val (.int v7), .val (.int v11), .val (.int v15), .val (.int v19), .val (.int v23), .val (.ref b25), .val (.ref b29), .val (.ref b84), .val .null, .val (.ref b92), .val (.int (0 : Int32))] [])) _
            refine XS.aload X99.here hx rfl (hb hby at_194) rfl rfl ?_
            show Steps p.tables e below (T99.setTop (mkF m 196 #[.val (.int fl), .val (.long cl), .second, .val (.int cc), .val (.int v3), .val (.int v7), .val (.int v11), .val (.int v15), .val (.int v19), .val (.int v23), .val (.ref b25), .val (.ref b29), .val (.ref b84), .val .null, .val (.ref b92), .val (.int (0 : Int32))] [(.ref b92)])) _
            refine st110.trans ?_
            show Steps p.tables e below (T110.setTop (mkF m 199 #[.val (.int fl), .val (.long cl), .second, .val (.int cc), .val (.int v3), .val (.int v7), .val (.int v11), .val (.int v15), .val (.int v19), .val (.int v23), .val (.ref b25), .val (.ref b29), .val (.ref b84), .val .null, .val (.ref b92), .val (.int (0 : Int32))] [(.int (own_cl (v7 &&& 1) (v3 &&& 1)))])) _
            refine XS.iload X110.here hx rfl (hb hby at_199) rfl ?_
            show Steps p.tables e below (T110.setTop (mkF m 201 #[.val (.int fl), .val (.long cl), .second, .val (.int cc), .val (.int v3), .val (.int v7), .val (.int v11), .val (.int v15), .val (.int v19), .val (.int v23), .val (.ref b25), .val (.ref b29), .val (.ref b84), .val .null, .val (.ref b92), .val (.int (0 : Int32))] [(.int (0 : Int32)), (.int (own_cl (v7 &&& 1) (v3 &&& 1)))])) _
            refine XS.icmpNo X110.here hx rfl (hb hby at_201) rfl (teq (show own_cl (v7 &&& 1) (v3 &&& 1) = (0 : Int32) from by rw [bv7, bv3]; unfold own_cl; rw [if_pos hc109, if_pos hc107])).2 ?_
            show Steps p.tables e below (T110.setTop (mkF m 204 #[.val (.int fl), .val (.long cl), .second, .val (.int cc), .val (.int v3), .val (.int v7), .val (.int v11), .val (.int v15), .val (.int v19), .val (.int v23), .val (.ref b25), .val (.ref b29), .val (.ref b84), .val .null, .val (.ref b92), .val (.int (0 : Int32))] [])) _
            refine XS.iconst X110.here hx rfl (hb hby at_204) ?_
            show Steps p.tables e below (T110.setTop (mkF m 205 #[.val (.int fl), .val (.long cl), .second, .val (.int cc), .val (.int v3), .val (.int v7), .val (.int v11), .val (.int v15), .val (.int v19), .val (.int v23), .val (.ref b25), .val (.ref b29), .val (.ref b84), .val .null, .val (.ref b92), .val (.int (0 : Int32))] [(.int (1 : Int32))])) _
            refine XS.goto X110.here hx rfl (pc0 := 205) (pc' := 209) rfl (hb hby at_205) (by decide) (by decide) ?_
            show Steps p.tables e below (T110.setTop (mkF m 209 #[.val (.int fl), .val (.long cl), .second, .val (.int cc), .val (.int v3), .val (.int v7), .val (.int v11), .val (.int v15), .val (.int v19), .val (.int v23), .val (.ref b25), .val (.ref b29), .val (.ref b84), .val .null, .val (.ref b92), .val (.int (0 : Int32))] [(.int (1 : Int32))])) _
            exact retN X110 hx (t := .boolean) Bd.returns (by simp) (hb hby at_209) hr
          · show own_Q0 Z fl cl cc w h0 n0 _ T110.heap _
            rw [e110]
            exact ⟨rfl, N110⟩
        · obtain ⟨cq111, kq111, q111a, q111b, q111c⟩ := isOf hZ rfl Eo99
          obtain ⟨_, _, ⟨T111, L111, k111, n111⟩, -, X111, ⟨Lc111, hQ111, l111, y111, z111⟩, st111⟩ := X99.virtualBack hx (y := (⟨"com/example/hatchd/hatchd/server/RequestReader$Request", "closes", "()Z"⟩ : MethodName)) (z := (⟨"com/example/hatchd/hatchd/server/RequestReader$Request", "closes", "()Z"⟩ : MethodName)) hown (mvT hZ (hw _ (List.mem_of_getElem? (i := 51) rfl))) (mvT hZ (hw _ (List.mem_of_getElem? (i := 52) rfl))) (notFace_of_selects (args := #[]) (mvT hZ (hw _ (List.mem_of_getElem? (i := 54) rfl)))) (mvT hZ (hw _ (List.mem_of_getElem? (i := 54) rfl))) (mvT hZ (hw _ (List.mem_of_getElem? (i := 53) rfl))) (by decide) (backOf (W := 0) (rm7 l Z a0 hw [] b92 (v7 &&& 1) (v3 &&& 1) T99.heap n0 z104 Fc99 Fh99) hZ (hw _ (List.mem_of_getElem? (i := 55) rfl)) (hw _ (List.mem_of_getElem? (i := 28) rfl)) (by decide) (by decide)) q111a q111c (g := (mkF m 196 #[.val (.int fl), .val (.long cl), .second, .val (.int cc), .val (.int v3), .val (.int v7), .val (.int v11), .val (.int v15), .val (.int v19), .val (.int v23), .val (.ref b25), .val (.ref b29), .val (.ref b84), .val .null, .val (.ref b92), .val (.int (1 : Int32))] [(.ref b92)])) rfl (by rw [hml]; rfl) (Steps.refl _) (argsL := []) (rest := []) (lenOf pd_6 rfl) rfl (by show 2 * 0 + _ ≤ _; exact Nat.le_of_eq rfl) (hb hby at_196) (fun _ _ => ⟨rfl, rfl, (by decide : 7 + 0 ≤ _), (by decide : 24 + 0 ≤ _)⟩)
          dsimp only [Pt.U, Pt.locs, Pt.cells, Pt.slots] at X111 l111 y111 z111 st111 hQ111
          subst l111 y111 z111
          obtain ⟨rfl, N111q, e111⟩ := hQ111
          have N111 := Fr.app N99 N111q
          obtain ⟨fs, hr, hrun, hended, hW, hsame⟩ := X111.leave (v := some (.int (1 : Int32))) (fun h => by rw [Bd.returns] at h; cases h)
          refine ⟨_, _, k108 _ ?_, hrun, hended, _, _, rfl, ?_, ⟨_, rfl⟩, hW, hsame.mono (by decide) (by decide)⟩
          · show Steps p.tables e below (T99.setTop (mkF m 182 #[.val (.int fl), .val (.long cl), .second, .val (.int cc), .val (.int v3), .val (.int v7), .val (.int v11), .val (.int v15), .val (.int v19), .val (.int v23), .val (.ref b25), .val (.ref b29), .val (.ref b84), .val .null, .val (.ref b92), .unset] [(.int v7)])) _
            refine XS.ifNo X99.here hx rfl (hb hby at_182) rfl ((if0 _ _).trans (feq hc109).1) ?_
            show Steps p.tables e below (T99.setTop (mkF m 185 #[.val (.int fl), .val (.long cl), .second, .val (.int cc), .val (.int v3), .val (.int v7), .val (.int v11), .val (.int v15), .val (.int v19), .val (.int v23), .val (.ref b25), .val (.ref b29), .val (.ref b84), .val .null, .val (.ref b92), .unset] [])) _
            refine XS.iconst X99.here hx rfl (hb hby at_185) ?_
            show Steps p.tables e below (T99.setTop (mkF m 186 #[.val (.int fl), .val (.long cl), .second, .val (.int cc), .val (.int v3), .val (.int v7), .val (.int v11), .val (.int v15), .val (.int v19), .val (.int v23), .val (.ref b25), .val (.ref b29), .val (.ref b84), .val .null, .val (.ref b92), .unset] [(.int (1 : Int32))])) _
            refine XS.istore X99.here hx rfl (hb hby at_186) rfl (l' := #[.val (.int fl), .val (.long cl), .second, .val (.int cc), .val (.int v3), .val (.int v7), .val (.int v11), .val (.int v15), .val (.int v19), .val (.int v23), .val (.ref b25), .val (.ref b29), .val (.ref b84), .val .null, .val (.ref b92), .val (.int (1 : Int32))]) rfl ?_
            show Steps p.tables e below (T99.setTop (mkF m 188 #[.val (.int fl), .val (.long cl), .second, .val (.int cc), .val (.int v3), .val (.int v7), .val (.int v11), .val (.int v15), .val (.int v19), .val (.int v23), .val (.ref b25), .val (.ref b29), .val (.ref b84), .val .null, .val (.ref b92), .val (.int (1 : Int32))] [])) _
            refine XS.goto X99.here hx rfl (pc0 := 188) (pc' := 194) rfl (hb hby at_188) (by decide) (by decide) ?_
            show Steps p.tables e below (T99.setTop (mkF m 194 #[.val (.int fl), .val (.long cl), .second, .val (.int cc), .val (.int v3), .val (.int v7), .val (.int v11), .val (.int v15), .val (.int v19), .val (.int v23), .val (.ref b25), .val (.ref b29), .val (.ref b84), .val .null, .val (.ref b92), .val (.int (1 : Int32))] [])) _
            refine XS.aload X99.here hx rfl (hb hby at_194) rfl rfl ?_
            show Steps p.tables e below (T99.setTop (mkF m 196 #[.val (.int fl), .val (.long cl), .second, .val (.int cc), .val (.int v3), .val (.int v7), .val (.int v11), .val (.int v15), .val (.int v19), .val (.int v23), .val (.ref b25), .val (.ref b29), .val (.ref b84), .val .null, .val (.ref b92), .val (.int (1 : Int32))] [(.ref b92)])) _
            refine st111.trans ?_
            show Steps p.tables e below (T111.setTop (mkF m 199 #[.val (.int fl), .val (.long cl), .second, .val (.int cc), .val (.int v3), .val (.int v7), .val (.int v11), .val (.int v15), .val (.int v19), .val (.int v23), .val (.ref b25), .val (.ref b29), .val (.ref b84), .val .null, .val (.ref b92), .val (.int (1 : Int32))] [(.int (own_cl (v7 &&& 1) (v3 &&& 1)))])) _
            refine XS.iload X111.here hx rfl (hb hby at_199) rfl ?_
            show Steps p.tables e below (T111.setTop (mkF m 201 #[.val (.int fl), .val (.long cl), .second, .val (.int cc), .val (.int v3), .val (.int v7), .val (.int v11), .val (.int v15), .val (.int v19), .val (.int v23), .val (.ref b25), .val (.ref b29), .val (.ref b84), .val .null, .val (.ref b92), .val (.int (1 : Int32))] [(.int (1 : Int32)), (.int (own_cl (v7 &&& 1) (v3 &&& 1)))])) _
            refine XS.icmpNo X111.here hx rfl (hb hby at_201) rfl (teq (show own_cl (v7 &&& 1) (v3 &&& 1) = (1 : Int32) from by rw [bv7, bv3]; unfold own_cl; rw [if_neg hc109])).2 ?_
            show Steps p.tables e below (T111.setTop (mkF m 204 #[.val (.int fl), .val (.long cl), .second, .val (.int cc), .val (.int v3), .val (.int v7), .val (.int v11), .val (.int v15), .val (.int v19), .val (.int v23), .val (.ref b25), .val (.ref b29), .val (.ref b84), .val .null, .val (.ref b92), .val (.int (1 : Int32))] [])) _
            refine XS.iconst X111.here hx rfl (hb hby at_204) ?_
            show Steps p.tables e below (T111.setTop (mkF m 205 #[.val (.int fl), .val (.long cl), .second, .val (.int cc), .val (.int v3), .val (.int v7), .val (.int v11), .val (.int v15), .val (.int v19), .val (.int v23), .val (.ref b25), .val (.ref b29), .val (.ref b84), .val .null, .val (.ref b92), .val (.int (1 : Int32))] [(.int (1 : Int32))])) _
            refine XS.goto X111.here hx rfl (pc0 := 205) (pc' := 209) rfl (hb hby at_205) (by decide) (by decide) ?_
            show Steps p.tables e below (T111.setTop (mkF m 209 #[.val (.int fl), .val (.long cl), .second, .val (.int cc), .val (.int v3), .val (.int v7), .val (.int v11), .val (.int v15), .val (.int v19), .val (.int v23), .val (.ref b25), .val (.ref b29), .val (.ref b84), .val .null, .val (.ref b92), .val (.int (1 : Int32))] [(.int (1 : Int32))])) _
            exact retN X111 hx (t := .boolean) Bd.returns (by simp) (hb hby at_209) hr
          · show own_Q0 Z fl cl cc w h0 n0 _ T111.heap _
            rw [e111]
            exact ⟨rfl, N111⟩
      · obtain ⟨cq112, kq112, q112a, q112b, q112c⟩ := isOf hZ rfl Eo99
        obtain ⟨_, _, ⟨T112, L112, k112, n112⟩, -, X112, ⟨Lc112, hQ112, l112, y112, z112⟩, st112⟩ := X99.virtualBack hx (y := (⟨"com/example/hatchd/hatchd/server/RequestReader$Request", "closes", "()Z"⟩ : MethodName)) (z := (⟨"com/example/hatchd/hatchd/server/RequestReader$Request", "closes", "()Z"⟩ : MethodName)) hown (mvT hZ (hw _ (List.mem_of_getElem? (i := 51) rfl))) (mvT hZ (hw _ (List.mem_of_getElem? (i := 52) rfl))) (notFace_of_selects (args := #[]) (mvT hZ (hw _ (List.mem_of_getElem? (i := 54) rfl)))) (mvT hZ (hw _ (List.mem_of_getElem? (i := 54) rfl))) (mvT hZ (hw _ (List.mem_of_getElem? (i := 53) rfl))) (by decide) (backOf (W := 0) (rm7 l Z a0 hw [] b92 (v7 &&& 1) (v3 &&& 1) T99.heap n0 z104 Fc99 Fh99) hZ (hw _ (List.mem_of_getElem? (i := 55) rfl)) (hw _ (List.mem_of_getElem? (i := 28) rfl)) (by decide) (by decide)) q112a q112c (g := (mkF m 196 #[.val (.int fl), .val (.long cl), .second, .val (.int cc), .val (.int v3), .val (.int v7), .val (.int v11), .val (.int v15), .val (.int v19), .val (.int v23), .val (.ref b25), .val (.ref b29), .val (.ref b84), .val .null, .val (.ref b92), .val (.int (1 : Int32))] [(.ref b92)])) rfl (by rw [hml]; rfl) (Steps.refl _) (argsL := []) (rest := []) (lenOf pd_6 rfl) rfl (by show 2 * 0 + _ ≤ _; exact Nat.le_of_eq rfl) (hb hby at_196) (fun _ _ => ⟨rfl, rfl, (by decide : 7 + 0 ≤ _), (by decide : 24 + 0 ≤ _)⟩)
        dsimp only [Pt.U, Pt.locs, Pt.cells, Pt.slots] at X112 l112 y112 z112 st112 hQ112
        subst l112 y112 z112
        obtain ⟨rfl, N112q, e112⟩ := hQ112
        have N112 := Fr.app N99 N112q
        obtain ⟨fs, hr, hrun, hended, hW, hsame⟩ := X112.leave (v := some (.int (1 : Int32))) (fun h => by rw [Bd.returns] at h; cases h)
        refine ⟨_, _, k106 _ ?_, hrun, hended, _, _, rfl, ?_, ⟨_, rfl⟩, hW, hsame.mono (by decide) (by decide)⟩
        · show Steps p.tables e below (T99.setTop (mkF m 171 #[.val (.int fl), .val (.long cl), .second, .val (.int cc), .val (.int v3), .val (.int v7), .val (.int v11), .val (.int v15), .val (.int v19), .val (.int v23), .val (.ref b25), .val (.ref b29), .val (.ref b84), .val .null, .val (.ref b92), .unset] [(.int v3)])) _
          refine XS.ifNo X99.here hx rfl (hb hby at_171) rfl ((if0 _ _).trans (feq hc107).1) ?_
          show Steps p.tables e below (T99.setTop (mkF m 174 #[.val (.int fl), .val (.long cl), .second, .val (.int cc), .val (.int v3), .val (.int v7), .val (.int v11), .val (.int v15), .val (.int v19), .val (.int v23), .val (.ref b25), .val (.ref b29), .val (.ref b84), .val .null, .val (.ref b92), .unset] [])) _
          refine XS.iconst X99.here hx rfl (hb hby at_174) ?_
          show Steps p.tables e below (T99.setTop (mkF m 175 #[.val (.int fl), .val (.long cl), .second, .val (.int cc), .val (.int v3), .val (.int v7), .val (.int v11), .val (.int v15), .val (.int v19), .val (.int v23), .val (.ref b25), .val (.ref b29), .val (.ref b84), .val .null, .val (.ref b92), .unset] [(.int (1 : Int32))])) _
          refine XS.istore X99.here hx rfl (hb hby at_175) rfl (l' := #[.val (.int fl), .val (.long cl), .second, .val (.int cc), .val (.int v3), .val (.int v7), .val (.int v11), .val (.int v15), .val (.int v19), .val (.int v23), .val (.ref b25), .val (.ref b29), .val (.ref b84), .val .null, .val (.ref b92), .val (.int (1 : Int32))]) rfl ?_
          show Steps p.tables e below (T99.setTop (mkF m 177 #[.val (.int fl), .val (.long cl), .second, .val (.int cc), .val (.int v3), .val (.int v7), .val (.int v11), .val (.int v15), .val (.int v19), .val (.int v23), .val (.ref b25), .val (.ref b29), .val (.ref b84), .val .null, .val (.ref b92), .val (.int (1 : Int32))] [])) _
          refine XS.goto X99.here hx rfl (pc0 := 177) (pc' := 194) rfl (hb hby at_177) (by decide) (by decide) ?_
          show Steps p.tables e below (T99.setTop (mkF m 194 #[.val (.int fl), .val (.long cl), .second, .val (.int cc), .val (.int v3), .val (.int v7), .val (.int v11), .val (.int v15), .val (.int v19), .val (.int v23), .val (.ref b25), .val (.ref b29), .val (.ref b84), .val .null, .val (.ref b92), .val (.int (1 : Int32))] [])) _
          refine XS.aload X99.here hx rfl (hb hby at_194) rfl rfl ?_
          show Steps p.tables e below (T99.setTop (mkF m 196 #[.val (.int fl), .val (.long cl), .second, .val (.int cc), .val (.int v3), .val (.int v7), .val (.int v11), .val (.int v15), .val (.int v19), .val (.int v23), .val (.ref b25), .val (.ref b29), .val (.ref b84), .val .null, .val (.ref b92), .val (.int (1 : Int32))] [(.ref b92)])) _
          refine st112.trans ?_
          show Steps p.tables e below (T112.setTop (mkF m 199 #[.val (.int fl), .val (.long cl), .second, .val (.int cc), .val (.int v3), .val (.int v7), .val (.int v11), .val (.int v15), .val (.int v19), .val (.int v23), .val (.ref b25), .val (.ref b29), .val (.ref b84), .val .null, .val (.ref b92), .val (.int (1 : Int32))] [(.int (own_cl (v7 &&& 1) (v3 &&& 1)))])) _
          refine XS.iload X112.here hx rfl (hb hby at_199) rfl ?_
          show Steps p.tables e below (T112.setTop (mkF m 201 #[.val (.int fl), .val (.long cl), .second, .val (.int cc), .val (.int v3), .val (.int v7), .val (.int v11), .val (.int v15), .val (.int v19), .val (.int v23), .val (.ref b25), .val (.ref b29), .val (.ref b84), .val .null, .val (.ref b92), .val (.int (1 : Int32))] [(.int (1 : Int32)), (.int (own_cl (v7 &&& 1) (v3 &&& 1)))])) _
          refine XS.icmpNo X112.here hx rfl (hb hby at_201) rfl (teq (show own_cl (v7 &&& 1) (v3 &&& 1) = (1 : Int32) from by rw [bv7, bv3]; unfold own_cl; rw [if_neg hc107]; split <;> rfl)).2 ?_
          show Steps p.tables e below (T112.setTop (mkF m 204 #[.val (.int fl), .val (.long cl), .second, .val (.int cc), .val (.int v3), .val (.int v7), .val (.int v11), .val (.int v15), .val (.int v19), .val (.int v23), .val (.ref b25), .val (.ref b29), .val (.ref b84), .val .null, .val (.ref b92), .val (.int (1 : Int32))] [])) _
          refine XS.iconst X112.here hx rfl (hb hby at_204) ?_
          show Steps p.tables e below (T112.setTop (mkF m 205 #[.val (.int fl), .val (.long cl), .second, .val (.int cc), .val (.int v3), .val (.int v7), .val (.int v11), .val (.int v15), .val (.int v19), .val (.int v23), .val (.ref b25), .val (.ref b29), .val (.ref b84), .val .null, .val (.ref b92), .val (.int (1 : Int32))] [(.int (1 : Int32))])) _
          refine XS.goto X112.here hx rfl (pc0 := 205) (pc' := 209) rfl (hb hby at_205) (by decide) (by decide) ?_
          show Steps p.tables e below (T112.setTop (mkF m 209 #[.val (.int fl), .val (.long cl), .second, .val (.int cc), .val (.int v3), .val (.int v7), .val (.int v11), .val (.int v15), .val (.int v19), .val (.int v23), .val (.ref b25), .val (.ref b29), .val (.ref b84), .val .null, .val (.ref b92), .val (.int (1 : Int32))] [(.int (1 : Int32))])) _
          exact retN X112 hx (t := .boolean) Bd.returns (by simp) (hb hby at_209) hr
        · show own_Q0 Z fl cl cc w h0 n0 _ T112.heap _
          rw [e112]
          exact ⟨rfl, N112⟩
    · obtain ⟨T113, h113, k113, X113, e113, E113, A113, st113⟩ := newP X84 hx hZ (hw _ (List.mem_of_getElem? (i := 14) rfl)) rfl (g := (mkF m 135 #[.val (.int fl), .val (.long cl), .second, .val (.int cc), .val (.int v3), .val (.int v7), .val (.int v11), .val (.int v15), .val (.int v19), .val (.int v23), .val (.ref b25), .val (.ref b29), .val (.ref b84), .unset, .unset, .unset] [(.int (1 : Int32))])) rfl (hb hby at_135) rfl (by decide) (cap := 1) (by decide) (by decide) (by decide) (by decide)
      obtain ⟨b113, g113⟩ : ∃ z, z = T84.heap.size := ⟨_, rfl⟩
      rw [← g113] at A113 st113
      have ne_b25_b113 : b25 ≠ b113 := Nat.ne_of_lt (Nat.lt_of_lt_of_le f86.lt (Nat.le_of_eq g113.symm))
      have ne_b29_b113 : b29 ≠ b113 := Nat.ne_of_lt (Nat.lt_of_lt_of_le f87.lt (Nat.le_of_eq g113.symm))
      have ne_b84_b113 : b84 ≠ b113 := Nat.ne_of_lt (Nat.lt_of_lt_of_le Es84.lt (Nat.le_of_eq g113.symm))
      have g_b113 : n0 ≤ b113 := Nat.le_trans z88 (Nat.le_of_eq g113.symm)
      have sz_b113 : h0.size ≤ b113 := Nat.le_trans kp89.1 (Nat.le_of_eq g113.symm)
      have f114 := f85.ext E113
      have f115 := f86.ext E113
      have f116 := f87.ext E113
      have f117 := Es84.ext E113
      have z118 := Nat.le_trans z88 E113.1
      have kp119 := kp89.ext E113
      have V_b113 : Arv Z h113 b113 k113 .byte (1 : Int32) [(.int (0 : Int32))] (.int (0 : Int32)) := (Arv.new A113 (by decide)).pad (pad_rep [] (.int (0 : Int32)) 1)
      obtain ⟨T120, h120, X120, e120, E120, A120, D120, U120, st120⟩ := newO X113 hx hZ hown (hw _ (List.mem_of_getElem? (i := 26) rfl)) (hw _ (List.mem_of_getElem? (i := 27) rfl)) (hw _ (List.mem_of_getElem? (i := 28) rfl)) e113 (g := (mkF m 143 #[.val (.int fl), .val (.long cl), .second, .val (.int cc), .val (.int v3), .val (.int v7), .val (.int v11), .val (.int v15), .val (.int v19), .val (.int v23), .val (.ref b25), .val (.ref b29), .val (.ref b84), .val (.ref b113), .unset, .unset] [])) rfl (hb hby at_143) (by decide) (by decide)
      obtain ⟨b120, g120⟩ : ∃ z, z = h113.size := ⟨_, rfl⟩
      rw [← g120] at A120 D120 U120 st120
      have ne_b25_b120 : b25 ≠ b120 := Nat.ne_of_lt (Nat.lt_of_lt_of_le f115.lt (Nat.le_of_eq g120.symm))
      have ne_b29_b120 : b29 ≠ b120 := Nat.ne_of_lt (Nat.lt_of_lt_of_le f116.lt (Nat.le_of_eq g120.symm))
      have ne_b84_b120 : b84 ≠ b120 := Nat.ne_of_lt (Nat.lt_of_lt_of_le f117.lt (Nat.le_of_eq g120.symm))
      have ne_b113_b120 : b113 ≠ b120 := Nat.ne_of_lt (Nat.lt_of_lt_of_le V_b113.lt (Nat.le_of_eq g120.symm))
      have g_b120 : n0 ≤ b120 := Nat.le_trans z118 (Nat.le_of_eq g120.symm)
      have sz_b120 : h0.size ≤ b120 := Nat.le_trans kp119.1 (Nat.le_of_eq g120.symm)
      have f121 := f114.ext E120
      have f122 := f115.ext E120
      have f123 := f116.ext E120
      have f124 := f117.ext E120
      have f125 := V_b113.ext E120
      have z126 := Nat.le_trans z118 E120.1
      have kp127 := kp119.ext E120
      have F_method_b120 : Fld Z h120 b120 "com/example/hatchd/hatchd/server/RequestReader$Request" "method" "Ljava/lang/String;" .null := D120 (Or.inr (hw _ (List.mem_of_getElem? (i := 34) rfl))) (ty := (.object "java/lang/String")) (by decide)
      have F_path_b120 : Fld Z h120 b120 "com/example/hatchd/hatchd/server/RequestReader$Request" "path" "Ljava/lang/String;" .null := D120 (Or.inr (hw _ (List.mem_of_getElem? (i := 36) rfl))) (ty := (.object "java/lang/String")) (by decide)
      have F_query_b120 : Fld Z h120 b120 "com/example/hatchd/hatchd/server/RequestReader$Request" "query" "Ljava/lang/String;" .null := D120 (Or.inr (hw _ (List.mem_of_getElem? (i := 38) rfl))) (ty := (.object "java/lang/String")) (by decide)
      have F_http10_b120 : Fld Z h120 b120 "com/example/hatchd/hatchd/server/RequestReader$Request" "http10" "Z" (.int (0 : Int32)) := D120 (Or.inr (hw _ (List.mem_of_getElem? (i := 40) rfl))) (ty := .boolean) (by decide)
      have F_close_b120 : Fld Z h120 b120 "com/example/hatchd/hatchd/server/RequestReader$Request" "close" "Z" (.int (0 : Int32)) := D120 (Or.inr (hw _ (List.mem_of_getElem? (i := 42) rfl))) (ty := .boolean) (by decide)
      have F_chunked_b120 : Fld Z h120 b120 "com/example/hatchd/hatchd/server/RequestReader$Request" "chunked" "Z" (.int (0 : Int32)) := D120 (Or.inr (hw _ (List.mem_of_getElem? (i := 44) rfl))) (ty := .boolean) (by decide)
      have F_contentLength_b120 : Fld Z h120 b120 "com/example/hatchd/hatchd/server/RequestReader$Request" "contentLength" "J" (.long (0 : Int64)) := D120 (Or.inr (hw _ (List.mem_of_getElem? (i := 46) rfl))) (ty := .long) (by decide)
      have F_expectsContinue_b120 : Fld Z h120 b120 "com/example/hatchd/hatchd/server/RequestReader$Request" "expectsContinue" "Z" (.int (0 : Int32)) := D120 (Or.inr (hw _ (List.mem_of_getElem? (i := 48) rfl))) (ty := .boolean) (by decide)
      have F_body_b120 : Fld Z h120 b120 "com/example/hatchd/hatchd/server/RequestReader$Request" "body" "[B" .null := D120 (Or.inr (hw _ (List.mem_of_getElem? (i := 50) rfl))) (ty := (.array .byte)) (by decide)
      obtain ⟨_, _, ⟨T128, L128, k128, n128⟩, -, X128, ⟨Lc128, hQ128, l128, y128, z128⟩, st128⟩ := X120.specialBack hx (y := (⟨"com/example/hatchd/hatchd/server/RequestReader$Request", "<init>", "(Ljava/lang/String;Ljava/lang/String;Ljava/lang/String;ZZZJZ[B)V"⟩ : MethodName)) rfl hown (mvT hZ (hw _ (List.mem_of_getElem? (i := 29) rfl))) (mvT hZ (hw _ (List.mem_of_getElem? (i := 30) rfl))) (mvT hZ (hw _ (List.mem_of_getElem? (i := 31) rfl))) (by decide) (backOf (W := 1) (rm6qb l Z a0 hw [] b120 b25 b29 b84 v3 v7 v11 cl v15 b113 h120 n0 z126 A120 F_method_b120 F_path_b120 F_query_b120 F_http10_b120 F_close_b120 F_chunked_b120 F_contentLength_b120 F_expectsContinue_b120 F_body_b120 g_b120) hZ (hw _ (List.mem_of_getElem? (i := 31) rfl)) (hw _ (List.mem_of_getElem? (i := 28) rfl)) (by decide) (by decide)) (g := (mkF m 164 #[.val (.int fl), .val (.long cl), .second, .val (.int cc), .val (.int v3), .val (.int v7), .val (.int v11), .val (.int v15), .val (.int v19), .val (.int v23), .val (.ref b25), .val (.ref b29), .val (.ref b84), .val (.ref b113), .unset, .unset] [(.ref b113), (.int v15), (.long cl), (.int v11), (.int v7), (.int v3), (.ref b84), (.ref b29), (.ref b25), (.ref b120), (.ref b120)])) rfl (by rw [hml]; rfl) (Steps.refl _) (a := b120) (argsL := [(.ref b25), (.ref b29), (.ref b84), (.int v3), (.int v7), (.int v11), (.long cl), (.int v15), (.ref b113)]) (rest := [(.ref b120)]) (lenOf pd_5 rfl) rfl (by show 2 * 0 + _ ≤ _; exact Nat.le_of_eq rfl) (hb hby at_164) (fun _ _ => ⟨rfl, e120, (by decide : 8 + 0 ≤ _), (by decide : 25 + 0 ≤ _)⟩)
      dsimp only [Pt.U, Pt.locs, Pt.cells, Pt.slots] at X128 l128 y128 z128 st128 hQ128
      subst l128 y128 z128
      obtain ⟨rfl, N128q, K128, Eo128, Fh128, Fc128⟩ := hQ128
      have N128 := Fr.app N84 N128q
      have f129 := f122.keep K128
      have f130 := f123.keep K128
      have f131 := f124.keep K128
      have f132 := f125.keep K128 (ninS ne_b113_b120 nin0)
      have f133 := A120.keep K128
      have z134 := Nat.le_trans z126 K128.1
      have kp135 := Keep.trans kp127 K128 (allS (Or.inr sz_b120) all0)
      have k136 : ∀ tq, Steps p.tables e below (T128.setTop (mkF m 171 #[.val (.int fl), .val (.long cl), .second, .val (.int cc), .val (.int v3), .val (.int v7), .val (.int v11), .val (.int v15), .val (.int v19), .val (.int v23), .val (.ref b25), .val (.ref b29), .val (.ref b84), .val (.ref b113), .val (.ref b120), .unset] [(.int v3)])) tq → Steps p.tables e below (s₁.setTop (entryFrame m #[(.int fl), (.long cl), (.int cc)] maxLocals)) tq := by
        intro tq kt
        refine k90 tq ?_
        show Steps p.tables e below (T84.setTop (mkF m 131 #[.val (.int fl), .val (.long cl), .second, .val (.int cc), .val (.int v3), .val (.int v7), .val (.int v11), .val (.int v15), .val (.int v19), .val (.int v23), .val (.ref b25), .val (.ref b29), .val (.ref b84), .unset, .unset, .unset] [(.int v23)])) _
        refine XS.ifNo X84.here hx rfl (hb hby at_131) rfl ((if0 _ _).trans (feq hc91).1) ?_
        show Steps p.tables e below (T84.setTop (mkF m 134 #[.val (.int fl), .val (.long cl), .second, .val (.int cc), .val (.int v3), .val (.int v7), .val (.int v11), .val (.int v15), .val (.int v19), .val (.int v23), .val (.ref b25), .val (.ref b29), .val (.ref b84), .unset, .unset, .unset] [])) _
        refine XS.iconst X84.here hx rfl (hb hby at_134) ?_
        show Steps p.tables e below (T84.setTop (mkF m 135 #[.val (.int fl), .val (.long cl), .second, .val (.int cc), .val (.int v3), .val (.int v7), .val (.int v11), .val (.int v15), .val (.int v19), .val (.int v23), .val (.ref b25), .val (.ref b29), .val (.ref b84), .unset, .unset, .unset] [(.int (1 : Int32))])) _
        refine st113 _ ?_
        show Steps p.tables e below (T113.setTop (mkF m 137 #[.val (.int fl), .val (.long cl), .second, .val (.int cc), .val (.int v3), .val (.int v7), .val (.int v11), .val (.int v15), .val (.int v19), .val (.int v23), .val (.ref b25), .val (.ref b29), .val (.ref b84), .unset, .unset, .unset] [(.ref b113)])) _
        refine XS.goto X113.here hx rfl (pc0 := 137) (pc' := 141) rfl (hb hby at_137) (by decide) (by decide) ?_
        show Steps p.tables e below (T113.setTop (mkF m 141 #[.val (.int fl), .val (.long cl), .second, .val (.int cc), .val (.int v3), .val (.int v7), .val (.int v11), .val (.int v15), .val (.int v19), .val (.int v23), .val (.ref b25), .val (.ref b29), .val (.ref b84), .unset, .unset, .unset] [(.ref b113)])) _
        refine XS.astore X113.here hx rfl (hb hby at_141) rfl rfl (l' := #[.val (.int fl), .val (.long cl), .second, .val (.int cc), .val (.int v3), .val (.int v7), .val (.int v11), .val (.int v15), .val (.int v19), .val (.int v23), .val (.ref b25), .val (.ref b29), .val (.ref b84), .val (.ref b113), .unset, .unset]) rfl ?_
        show Steps p.tables e below (T113.setTop (mkF m 143 #[.val (.int fl), .val (.long cl), .second, .val (.int cc), .val (.int v3), .val (.int v7), .val (.int v11), .val (.int v15), .val (.int v19), .val (.int v23), .val (.ref b25), .val (.ref b29), .val (.ref b84), .val (.ref b113), .unset, .unset] [])) _
        refine st120 _ ?_
        show Steps p.tables e below (T120.setTop (mkF m 146 #[.val (.int fl), .val (.long cl), .second, .val (.int cc), .val (.int v3), .val (.int v7), .val (.int v11), .val (.int v15), .val (.int v19), .val (.int v23), .val (.ref b25), .val (.ref b29), .val (.ref b84), .val (.ref b113), .unset, .unset] [(.ref b120)])) _
        refine XS.dup X120.here hx rfl (hb hby at_146) rfl rfl ?_
        show Steps p.tables e below (T120.setTop (mkF m 147 #[.val (.int fl), .val (.long cl), .second, .val (.int cc), .val (.int v3), .val (.int v7), .val (.int v11), .val (.int v15), .val (.int v19), .val (.int v23), .val (.ref b25), .val (.ref b29), .val (.ref b84), .val (.ref b113), .unset, .unset] [(.ref b120), (.ref b120)])) _
        refine XS.aload X120.here hx rfl (hb hby at_147) rfl rfl ?_
        show Steps p.tables e below (T120.setTop (mkF m 149 #[.val (.int fl), .val (.long cl), .second, .val (.int cc), .val (.int v3), .val (.int v7), .val (.int v11), .val (.int v15), .val (.int v19), .val (.int v23), .val (.ref b25), .val (.ref b29), .val (.ref b84), .val (.ref b113), .unset, .unset] [(.ref b25), (.ref b120), (.ref b120)])) _
        refine XS.aload X120.here hx rfl (hb hby at_149) rfl rfl ?_
        show Steps p.tables e below (T120.setTop (mkF m 151 #[.val (.int fl), .val (.long cl), .second, .val (.int cc), .val (.int v3), .val (.int v7), .val (.int v11), .val (.int v15), .val (.int v19), .val (.int v23), .val (.ref b25), .val (.ref b29), .val (.ref b84), .val (.ref b113), .unset, .unset] [(.ref b29), (.ref b25), (.ref b120), (.ref b120)])) _
        refine XS.aload X120.here hx rfl (hb hby at_151) rfl rfl ?_
        show Steps p.tables e below (T120.setTop (mkF m 153 #[.val (.int fl), .val (.long cl), .second, .val (.int cc), .val (.int v3), .val (.int v7), .val (.int v11), .val (.int v15), .val (.int v19), .val (.int v23), .val (.ref b25), .val (.ref b29), .val (.ref b84), .val (.ref b113), .unset, .unset] [(.ref b84), (.ref b29), (.ref b25), (.ref b120), (.ref b120)])) _
        refine XS.iload X120.here hx rfl (hb hby at_153) rfl ?_
        show Steps p.tables e below (T120.setTop (mkF m 155 #[.val (.int fl), .val (.long cl), .second, .val (.int cc), .val (.int v3), .val (.int v7), .val (.int v11), .val (.int v15), .val (.int v19), .val (.int v23), .val (.ref b25), .val (.ref b29), .val (.ref b84), .val (.ref b113), .unset, .unset] [(.int v3), (.ref b84), (.ref b29), (.ref b25), (.ref b120), (.ref b120)])) _
        refine XS.iload X120.here hx rfl (hb hby at_155) rfl ?_
        show Steps p.tables e below (T120.setTop (mkF m 157 #[.val (.int fl), .val (.long cl), .second, .val (.int cc), .val (.int v3), .val (.int v7), .val (.int v11), .val (.int v15), .val (.int v19), .val (.int v23), .val (.ref b25), .val (.ref b29), .val (.ref b84), .val (.ref b113), .unset, .unset] [(.int v7), (.int v3), (.ref b84), (.ref b29), (.ref b25), (.ref b120), (.ref b120)])) _
        refine XS.iload X120.here hx rfl (hb hby at_157) rfl ?_
        show Steps p.tables e below (T120.setTop (mkF m 159 #[.val (.int fl), .val (.long cl), .second, .val (.int cc), .val (.int v3), .val (.int v7), .val (.int v11), .val (.int v15), .val (.int v19), .val (.int v23), .val (.ref b25), .val (.ref b29), .val (.ref b84), .val (.ref b113), .unset, .unset] [(.int v11), (.int v7), (.int v3), (.ref b84), (.ref b29), (.ref b25), (.ref b120), (.ref b120)])) _
        refine XS.lloadN X120.here hx rfl (hb hby at_159) rfl ?_
        show Steps p.tables e below (T120.setTop (mkF m 160 #[.val (.int fl), .val (.long cl), .second, .val (.int cc), .val (.int v3), .val (.int v7), .val (.int v11), .val (.int v15), .val (.int v19), .val (.int v23), .val (.ref b25), .val (.ref b29), .val (.ref b84), .val (.ref b113), .unset, .unset] [(.long cl), (.int v11), (.int v7), (.int v3), (.ref b84), (.ref b29), (.ref b25), (.ref b120), (.ref b120)])) _
        refine XS.iload X120.here hx rfl (hb hby at_160) rfl ?_
        show Steps p.tables e below (T120.setTop (mkF m 162 #[.val (.int fl), .val (.long cl), .second, .val (.int cc), .val (.int v3), .val (.int v7), .val (.int v11), .val (.int v15), .val (.int v19), .val (.int v23), .val (.ref b25), .val (.ref b29), .val (.ref b84), .val (.ref b113), .unset, .unset] [(.int v15), (.long cl), (.int v11), (.int v7), (.int v3), (.ref b84), (.ref b29), (.ref b25), (.ref b120), (.ref b120)])) _
        refine XS.aload X120.here hx rfl (hb hby at_162) rfl rfl ?_
        show Steps p.tables e below (T120.setTop (mkF m 164 #[.val (.int fl), .val (.long cl), .second, .val (.int cc), .val (.int v3), .val (.int v7), .val (.int v11), .val (.int v15), .val (.int v19), .val (.int v23), .val (.ref b25), .val (.ref b29), .val (.ref b84), .val (.ref b113), .unset, .unset] [(.ref b113), (.int v15), (.long cl), (.int v11), (.int v7), (.int v3), (.ref b84), (.ref b29), (.ref b25), (.ref b120), (.ref b120)])) _
        refine st128.trans ?_
        show Steps p.tables e below (T128.setTop (mkF m 167 #[.val (.int fl), .val (.long cl), .second, .val (.int cc), .val (.int v3), .val (.int v7), .val (.int v11), .val (.int v15), .val (.int v19), .val (.int v23), .val (.ref b25), .val (.ref b29), .val (.ref b84), .val (.ref b113), .unset, .unset] [(.ref b120)])) _
        refine XS.astore X128.here hx rfl (hb hby at_167) rfl rfl (l' := #[.val (.int fl), .val (.long cl), .second, .val (.int cc), .val (.int v3), .val (.int v7), .val (.int v11), .val (.int v15), .val (.int v19), .val (.int v23), .val (.ref b25), .val (.ref b29), .val (.ref b84), .val (.ref b113), .val (.ref b120), .unset]) rfl ?_
        show Steps p.tables e below (T128.setTop (mkF m 169 #[.val (.int fl), .val (.long cl), .second, .val (.int cc), .val (.int v3), .val (.int v7), .val (.int v11), .val (.int v15), .val (.int v19), .val (.int v23), .val (.ref b25), .val (.ref b29), .val (.ref b84), .val (.ref b113), .val (.ref b120), .unset] [])) _
        refine XS.iload X128.here hx rfl (hb hby at_169) rfl ?_
        exact kt
      by_cases hc137 : v3 = (0 : Int32)
      · have k138 : ∀ tq, Steps p.tables e below (T128.setTop (mkF m 182 #[.val (.int fl), .val (.long cl), .second, .val (.int cc), .val (.int v3), .val (.int v7), .val (.int v11), .val (.int v15), .val (.int v19), .val (.int v23), .val (.ref b25), .val (.ref b29), .val (.ref b84), .val (.ref b113), .val (.ref b120), .unset] [(.int v7)])) tq → Steps p.tables e below (s₁.setTop (entryFrame m #[(.int fl), (.long cl), (.int cc)] maxLocals)) tq := by
          intro tq kt
          refine k136 tq ?_
          show Steps p.tables e below (T128.setTop (mkF m 171 #[.val (.int fl), .val (.long cl), .second, .val (.int cc), .val (.int v3), .val (.int v7), .val (.int v11), .val (.int v15), .val (.int v19), .val (.int v23), .val (.ref b25), .val (.ref b29), .val (.ref b84), .val (.ref b113), .val (.ref b120), .unset] [(.int v3)])) _
          refine XS.ifYes X128.here hx rfl (pc0 := 171) (pc' := 180) rfl (hb hby at_171) rfl ((if0 _ _).trans (teq hc137).1) (by decide) (by decide) ?_
          show Steps p.tables e below (T128.setTop (mkF m 180 #[.val (.int fl), .val (.long cl), .second, .val (.int cc), .val (.int v3), .val (.int v7), .val (.int v11), .val (.int v15), .val (.int v19), .val (.int v23), .val (.ref b25), .val (.ref b29), .val (.ref b84), .val (.ref b113), .val (.ref b120), .unset] [])) _
          refine XS.iload X128.here hx rfl (hb hby at_180) rfl ?_
          exact kt
        by_cases hc139 : v7 = (0 : Int32)
        · obtain ⟨cq140, kq140, q140a, q140b, q140c⟩ := isOf hZ rfl Eo128
          obtain ⟨_, _, ⟨T140, L140, k140, n140⟩, -, X140, ⟨Lc140, hQ140, l140, y140, z140⟩, st140⟩ := X128.virtualBack hx (y := (⟨"com/example/hatchd/hatchd/server/RequestReader$Request", "closes", "()Z"⟩ : MethodName)) (z := (⟨"com/example/hatchd/hatchd/server/RequestReader$Request", "closes", "()Z"⟩ : MethodName)) hown (mvT hZ (hw _ (List.mem_of_getElem? (i := 51) rfl))) (mvT hZ (hw _ (List.mem_of_getElem? (i := 52) rfl))) (notFace_of_selects (args := #[]) (mvT hZ (hw _ (List.mem_of_getElem? (i := 54) rfl)))) (mvT hZ (hw _ (List.mem_of_getElem? (i := 54) rfl))) (mvT hZ (hw _ (List.mem_of_getElem? (i := 53) rfl))) (by decide) (backOf (W := 0) (rm7 l Z a0 hw [] b120 (v7 &&& 1) (v3 &&& 1) T128.heap n0 z134 Fc128 Fh128) hZ (hw _ (List.mem_of_getElem? (i := 55) rfl)) (hw _ (List.mem_of_getElem? (i := 28) rfl)) (by decide) (by decide)) q140a q140c (g := (mkF m 196 #[.val (.int fl), .val (.long cl), .second, .val (.int cc), .val (.int v3), .val (.int v7), .val (.int v11), .val (.int v15), .val (.int v19), .val (.int v23), .val (.ref b25), .val (.ref b29), .val (.ref b84), .val (.ref b113), .val (.ref b120), .val (.int (0 : Int32))] [(.ref b120)])) rfl (by rw [hml]; rfl) (Steps.refl _) (argsL := []) (rest := []) (lenOf pd_6 rfl) rfl (by show 2 * 0 + _ ≤ _; exact Nat.le_of_eq rfl) (hb hby at_196) (fun _ _ => ⟨rfl, rfl, (by decide : 8 + 0 ≤ _), (by decide : 25 + 0 ≤ _)⟩)
          dsimp only [Pt.U, Pt.locs, Pt.cells, Pt.slots] at X140 l140 y140 z140 st140 hQ140
          subst l140 y140 z140
          obtain ⟨rfl, N140q, e140⟩ := hQ140
          have N140 := Fr.app N128 N140q
          obtain ⟨fs, hr, hrun, hended, hW, hsame⟩ := X140.leave (v := some (.int (1 : Int32))) (fun h => by rw [Bd.returns] at h; cases h)
          refine ⟨_, _, k138 _ ?_, hrun, hended, _, _, rfl, ?_, ⟨_, rfl⟩, hW, hsame.mono (by decide) (by decide)⟩
          · show Steps p.tables e below (T128.setTop (mkF m 182 #[.val (.int fl), .val (.long cl), .second, .val (.int cc), .val (.int v3), .val (.int v7), .val (.int v11), .val (.int v15), .val (.int v19), .val (.int v23), .val (.ref b25), .val (.ref b29), .val (.ref b84), .val (.ref b113), .val (.ref b120), .unset] [(.int v7)])) _
            refine XS.ifYes X128.here hx rfl (pc0 := 182) (pc' := 191) rfl (hb hby at_182) rfl ((if0 _ _).trans (teq hc139).1) (by decide) (by decide) ?_
            show Steps p.tables e below (T128.setTop (mkF m 191 #[.val (.int fl), .val (.long cl), .second, .val (.int cc), .val (.int v3), .val (.int v7), .val (.int v11), .val (.int v15), .val (.int v19), .val (.int v23), .val (.ref b25), .val (.ref b29), .val (.ref b84), .val (.ref b113), .val (.ref b120), .unset] [])) _
            refine XS.iconst X128.here hx rfl (hb hby at_191) ?_
            show Steps p.tables e below (T128.setTop (mkF m 192 #[.val (.int fl), .val (.long cl), .second, .val (.int cc), .val (.int v3), .val (.int v7), .val (.int v11), .val (.int v15), .val (.int v19), .val (.int v23), .val (.ref b25), .val (.ref b29), .val (.ref b84), .val (.ref b113), .val (.ref b120), .unset] [(.int (0 : Int32))])) _
            refine XS.istore X128.here hx rfl (hb hby at_192) rfl (l' := #[.val (.int fl), .val (.long cl), .second, .val (.int cc), .val (.int v3), .val (.int v7), .val (.int v11), .val (.int v15), .val (.int v19), .val (.int v23), .val (.ref b25), .val (.ref b29), .val (.ref b84), .val (.ref b113), .val (.ref b120), .val (.int (0 : Int32))]) rfl ?_
            show Steps p.tables e below (T128.setTop (mkF m 194 #[.val (.int fl), .val (.long cl), .second, .val (.int cc), .val (.int v3), .val (.int v7), .val (.int v11), .val (.int v15), .val (.int v19), .val (.int v23), .val (.ref b25), .val (.ref b29), .val (.ref b84), .val (.ref b113), .val (.ref b120), .val (.int (0 : Int32))] [])) _
            refine XS.aload X128.here hx rfl (hb hby at_194) rfl rfl ?_
            show Steps p.tables e below (T128.setTop (mkF m 196 #[.val (.int fl), .val (.long cl), .second, .val (.int cc), .val (.int v3), .val (.int v7), .val (.int v11), .val (.int v15), .val (.int v19), .val (.int v23), .val (.ref b25), .val (.ref b29), .val (.ref b84), .val (.ref b113), .val (.ref b120), .val (.int (0 : Int32))] [(.ref b120)])) _
            refine st140.trans ?_
            show Steps p.tables e below (T140.setTop (mkF m 199 #[.val (.int fl), .val (.long cl), .second, .val (.int cc), .val (.int v3), .val (.int v7), .val (.int v11), .val (.int v15), .val (.int v19), .val (.int v23), .val (.ref b25), .val (.ref b29), .val (.ref b84), .val (.ref b113), .val (.ref b120), .val (.int (0 : Int32))] [(.int (own_cl (v7 &&& 1) (v3 &&& 1)))])) _
            refine XS.iload X140.here hx rfl (hb hby at_199) rfl ?_
            show Steps p.tables e below (T140.setTop (mkF m 201 #[.val (.int fl), .val (.long cl), .second, .val (.int cc), .val (.int v3), .val (.int v7), .val (.int v11), .val (.int v15), .val (.int v19), .val (.int v23), .val (.ref b25), .val (.ref b29), .val (.ref b84), .val (.ref b113), .val (.ref b120), .val (.int (0 : Int32))] [(.int (0 : Int32)), (.int (own_cl (v7 &&& 1) (v3 &&& 1)))])) _
            refine XS.icmpNo X140.here hx rfl (hb hby at_201) rfl (teq (show own_cl (v7 &&& 1) (v3 &&& 1) = (0 : Int32) from by rw [bv7, bv3]; unfold own_cl; rw [if_pos hc139, if_pos hc137])).2 ?_
            show Steps p.tables e below (T140.setTop (mkF m 204 #[.val (.int fl), .val (.long cl), .second, .val (.int cc), .val (.int v3), .val (.int v7), .val (.int v11), .val (.int v15), .val (.int v19), .val (.int v23), .val (.ref b25), .val (.ref b29), .val (.ref b84), .val (.ref b113), .val (.ref b120), .val (.int (0 : Int32))] [])) _
            refine XS.iconst X140.here hx rfl (hb hby at_204) ?_
            show Steps p.tables e below (T140.setTop (mkF m 205 #[.val (.int fl), .val (.long cl), .second, .val (.int cc), .val (.int v3), .val (.int v7), .val (.int v11), .val (.int v15), .val (.int v19), .val (.int v23), .val (.ref b25), .val (.ref b29), .val (.ref b84), .val (.ref b113), .val (.ref b120), .val (.int (0 : Int32))] [(.int (1 : Int32))])) _
            refine XS.goto X140.here hx rfl (pc0 := 205) (pc' := 209) rfl (hb hby at_205) (by decide) (by decide) ?_
            show Steps p.tables e below (T140.setTop (mkF m 209 #[.val (.int fl), .val (.long cl), .second, .val (.int cc), .val (.int v3), .val (.int v7), .val (.int v11), .val (.int v15), .val (.int v19), .val (.int v23), .val (.ref b25), .val (.ref b29), .val (.ref b84), .val (.ref b113), .val (.ref b120), .val (.int (0 : Int32))] [(.int (1 : Int32))])) _
            exact retN X140 hx (t := .boolean) Bd.returns (by simp) (hb hby at_209) hr
          · show own_Q0 Z fl cl cc w h0 n0 _ T140.heap _
            rw [e140]
            exact ⟨rfl, N140⟩
        · obtain ⟨cq141, kq141, q141a, q141b, q141c⟩ := isOf hZ rfl Eo128
          obtain ⟨_, _, ⟨T141, L141, k141, n141⟩, -, X141, ⟨Lc141, hQ141, l141, y141, z141⟩, st141⟩ := X128.virtualBack hx (y := (⟨"com/example/hatchd/hatchd/server/RequestReader$Request", "closes", "()Z"⟩ : MethodName)) (z := (⟨"com/example/hatchd/hatchd/server/RequestReader$Request", "closes", "()Z"⟩ : MethodName)) hown (mvT hZ (hw _ (List.mem_of_getElem? (i := 51) rfl))) (mvT hZ (hw _ (List.mem_of_getElem? (i := 52) rfl))) (notFace_of_selects (args := #[]) (mvT hZ (hw _ (List.mem_of_getElem? (i := 54) rfl)))) (mvT hZ (hw _ (List.mem_of_getElem? (i := 54) rfl))) (mvT hZ (hw _ (List.mem_of_getElem? (i := 53) rfl))) (by decide) (backOf (W := 0) (rm7 l Z a0 hw [] b120 (v7 &&& 1) (v3 &&& 1) T128.heap n0 z134 Fc128 Fh128) hZ (hw _ (List.mem_of_getElem? (i := 55) rfl)) (hw _ (List.mem_of_getElem? (i := 28) rfl)) (by decide) (by decide)) q141a q141c (g := (mkF m 196 #[.val (.int fl), .val (.long cl), .second, .val (.int cc), .val (.int v3), .val (.int v7), .val (.int v11), .val (.int v15), .val (.int v19), .val (.int v23), .val (.ref b25), .val (.ref b29), .val (.ref b84), .val (.ref b113), .val (.ref b120), .val (.int (1 : Int32))] [(.ref b120)])) rfl (by rw [hml]; rfl) (Steps.refl _) (argsL := []) (rest := []) (lenOf pd_6 rfl) rfl (by show 2 * 0 + _ ≤ _; exact Nat.le_of_eq rfl) (hb hby at_196) (fun _ _ => ⟨rfl, rfl, (by decide : 8 + 0 ≤ _), (by decide : 25 + 0 ≤ _)⟩)
          dsimp only [Pt.U, Pt.locs, Pt.cells, Pt.slots] at X141 l141 y141 z141 st141 hQ141
          subst l141 y141 z141
          obtain ⟨rfl, N141q, e141⟩ := hQ141
          have N141 := Fr.app N128 N141q
          obtain ⟨fs, hr, hrun, hended, hW, hsame⟩ := X141.leave (v := some (.int (1 : Int32))) (fun h => by rw [Bd.returns] at h; cases h)
          refine ⟨_, _, k138 _ ?_, hrun, hended, _, _, rfl, ?_, ⟨_, rfl⟩, hW, hsame.mono (by decide) (by decide)⟩
          · show Steps p.tables e below (T128.setTop (mkF m 182 #[.val (.int fl), .val (.long cl), .second, .val (.int cc), .val (.int v3), .val (.int v7), .val (.int v11), .val (.int v15), .val (.int v19), .val (.int v23), .val (.ref b25), .val (.ref b29), .val (.ref b84), .val (.ref b113), .val (.ref b120), .unset] [(.int v7)])) _
            refine XS.ifNo X128.here hx rfl (hb hby at_182) rfl ((if0 _ _).trans (feq hc139).1) ?_
            show Steps p.tables e below (T128.setTop (mkF m 185 #[.val (.int fl), .val (.long cl), .second, .val (.int cc), .val (.int v3), .val (.int v7), .val (.int v11), .val (.int v15), .val (.int v19), .val (.int v23), .val (.ref b25), .val (.ref b29), .val (.ref b84), .val (.ref b113), .val (.ref b120), .unset] [])) _
            refine XS.iconst X128.here hx rfl (hb hby at_185) ?_
            show Steps p.tables e below (T128.setTop (mkF m 186 #[.val (.int fl), .val (.long cl), .second, .val (.int cc), .val (.int v3), .val (.int v7), .val (.int v11), .val (.int v15), .val (.int v19), .val (.int v23), .val (.ref b25), .val (.ref b29), .val (.ref b84), .val (.ref b113), .val (.ref b120), .unset] [(.int (1 : Int32))])) _
            refine XS.istore X128.here hx rfl (hb hby at_186) rfl (l' := #[.val (.int fl), .val (.long cl), .second, .val (.int cc), .val (.int v3), .val (.int v7), .val (.int v11), .val (.int v15), .val (.int v19), .val (.int v23), .val (.ref b25), .val (.ref b29), .val (.ref b84), .val (.ref b113), .val (.ref b120), .val (.int (1 : Int32))]) rfl ?_
            show Steps p.tables e below (T128.setTop (mkF m 188 #[.val (.int fl), .val (.long cl), .second, .val (.int cc), .val (.int v3), .val (.int v7), .val (.int v11), .val (.int v15), .val (.int v19), .val (.int v23), .val (.ref b25), .val (.ref b29), .val (.ref b84), .val (.ref b113), .val (.ref b120), .val (.int (1 : Int32))] [])) _
            refine XS.goto X128.here hx rfl (pc0 := 188) (pc' := 194) rfl (hb hby at_188) (by decide) (by decide) ?_
            show Steps p.tables e below (T128.setTop (mkF m 194 #[.val (.int fl), .val (.long cl), .second, .val (.int cc), .val (.int v3), .val (.int v7), .val (.int v11), .val (.int v15), .val (.int v19), .val (.int v23), .val (.ref b25), .val (.ref b29), .val (.ref b84), .val (.ref b113), .val (.ref b120), .val (.int (1 : Int32))] [])) _
            refine XS.aload X128.here hx rfl (hb hby at_194) rfl rfl ?_
            show Steps p.tables e below (T128.setTop (mkF m 196 #[.val (.int fl), .val (.long cl), .second, .val (.int cc), .val (.int v3), .val (.int v7), .val (.int v11), .val (.int v15), .val (.int v19), .val (.int v23), .val (.ref b25), .val (.ref b29), .val (.ref b84), .val (.ref b113), .val (.ref b120), .val (.int (1 : Int32))] [(.ref b120)])) _
            refine st141.trans ?_
            show Steps p.tables e below (T141.setTop (mkF m 199 #[.val (.int fl), .val (.long cl), .second, .val (.int cc), .val (.int v3), .val (.int v7), .val (.int v11), .val (.int v15), .val (.int v19), .val (.int v23), .val (.ref b25), .val (.ref b29), .val (.ref b84), .val (.ref b113), .val (.ref b120), .val (.int (1 : Int32))] [(.int (own_cl (v7 &&& 1) (v3 &&& 1)))])) _
            refine XS.iload X141.here hx rfl (hb hby at_199) rfl ?_
            show Steps p.tables e below (T141.setTop (mkF m 201 #[.val (.int fl), .val (.long cl), .second, .val (.int cc), .val (.int v3), .val (.int v7), .val (.int v11), .val (.int v15), .val (.int v19), .val (.int v23), .val (.ref b25), .val (.ref b29), .val (.ref b84), .val (.ref b113), .val (.ref b120), .val (.int (1 : Int32))] [(.int (1 : Int32)), (.int (own_cl (v7 &&& 1) (v3 &&& 1)))])) _
            refine XS.icmpNo X141.here hx rfl (hb hby at_201) rfl (teq (show own_cl (v7 &&& 1) (v3 &&& 1) = (1 : Int32) from by rw [bv7, bv3]; unfold own_cl; rw [if_neg hc139])).2 ?_
            show Steps p.tables e below (T141.setTop (mkF m 204 #[.val (.int fl), .val (.long cl), .second, .val (.int cc), .val (.int v3), .val (.int v7), .val (.int v11), .val (.int v15), .val (.int v19), .val (.int v23), .val (.ref b25), .val (.ref b29), .val (.ref b84), .val (.ref b113), .val (.ref b120), .val (.int (1 : Int32))] [])) _
            refine XS.iconst X141.here hx rfl (hb hby at_204) ?_
            show Steps p.tables e below (T141.setTop (mkF m 205 #[.val (.int fl), .val (.long cl), .second, .val (.int cc), .val (.int v3), .val (.int v7), .val (.int v11), .val (.int v15), .val (.int v19), .val (.int v23), .val (.ref b25), .val (.ref b29), .val (.ref b84), .val (.ref b113), .val (.ref b120), .val (.int (1 : Int32))] [(.int (1 : Int32))])) _
            refine XS.goto X141.here hx rfl (pc0 := 205) (pc' := 209) rfl (hb hby at_205) (by decide) (by decide) ?_
            show Steps p.tables e below (T141.setTop (mkF m 209 #[.val (.int fl), .val (.long cl), .second, .val (.int cc), .val (.int v3), .val (.int v7), .val (.int v11), .val (.int v15), .val (.int v19), .val (.int v23), .val (.ref b25), .val (.ref b29), .val (.ref b84), .val (.ref b113), .val (.ref b120), .val (.int (1 : Int32))] [(.int (1 : Int32))])) _
            exact retN X141 hx (t := .boolean) Bd.returns (by simp) (hb hby at_209) hr
          · show own_Q0 Z fl cl cc w h0 n0 _ T141.heap _
            rw [e141]
            exact ⟨rfl, N141⟩
      · obtain ⟨cq142, kq142, q142a, q142b, q142c⟩ := isOf hZ rfl Eo128
        obtain ⟨_, _, ⟨T142, L142, k142, n142⟩, -, X142, ⟨Lc142, hQ142, l142, y142, z142⟩, st142⟩ := X128.virtualBack hx (y := (⟨"com/example/hatchd/hatchd/server/RequestReader$Request", "closes", "()Z"⟩ : MethodName)) (z := (⟨"com/example/hatchd/hatchd/server/RequestReader$Request", "closes", "()Z"⟩ : MethodName)) hown (mvT hZ (hw _ (List.mem_of_getElem? (i := 51) rfl))) (mvT hZ (hw _ (List.mem_of_getElem? (i := 52) rfl))) (notFace_of_selects (args := #[]) (mvT hZ (hw _ (List.mem_of_getElem? (i := 54) rfl)))) (mvT hZ (hw _ (List.mem_of_getElem? (i := 54) rfl))) (mvT hZ (hw _ (List.mem_of_getElem? (i := 53) rfl))) (by decide) (backOf (W := 0) (rm7 l Z a0 hw [] b120 (v7 &&& 1) (v3 &&& 1) T128.heap n0 z134 Fc128 Fh128) hZ (hw _ (List.mem_of_getElem? (i := 55) rfl)) (hw _ (List.mem_of_getElem? (i := 28) rfl)) (by decide) (by decide)) q142a q142c (g := (mkF m 196 #[.val (.int fl), .val (.long cl), .second, .val (.int cc), .val (.int v3), .val (.int v7), .val (.int v11), .val (.int v15), .val (.int v19), .val (.int v23), .val (.ref b25), .val (.ref b29), .val (.ref b84), .val (.ref b113), .val (.ref b120), .val (.int (1 : Int32))] [(.ref b120)])) rfl (by rw [hml]; rfl) (Steps.refl _) (argsL := []) (rest := []) (lenOf pd_6 rfl) rfl (by show 2 * 0 + _ ≤ _; exact Nat.le_of_eq rfl) (hb hby at_196) (fun _ _ => ⟨rfl, rfl, (by decide : 8 + 0 ≤ _), (by decide : 25 + 0 ≤ _)⟩)
        dsimp only [Pt.U, Pt.locs, Pt.cells, Pt.slots] at X142 l142 y142 z142 st142 hQ142
        subst l142 y142 z142
        obtain ⟨rfl, N142q, e142⟩ := hQ142
        have N142 := Fr.app N128 N142q
        obtain ⟨fs, hr, hrun, hended, hW, hsame⟩ := X142.leave (v := some (.int (1 : Int32))) (fun h => by rw [Bd.returns] at h; cases h)
        refine ⟨_, _, k136 _ ?_, hrun, hended, _, _, rfl, ?_, ⟨_, rfl⟩, hW, hsame.mono (by decide) (by decide)⟩
        · show Steps p.tables e below (T128.setTop (mkF m 171 #[.val (.int fl), .val (.long cl), .second, .val (.int cc), .val (.int v3), .val (.int v7), .val (.int v11), .val (.int v15), .val (.int v19), .val (.int v23), .val (.ref b25), .val (.ref b29), .val (.ref b84), .val (.ref b113), .val (.ref b120), .unset] [(.int v3)])) _
          refine XS.ifNo X128.here hx rfl (hb hby at_171) rfl ((if0 _ _).trans (feq hc137).1) ?_
          show Steps p.tables e below (T128.setTop (mkF m 174 #[.val (.int fl), .val (.long cl), .second, .val (.int cc), .val (.int v3), .val (.int v7), .val (.int v11), .val (.int v15), .val (.int v19), .val (.int v23), .val (.ref b25), .val (.ref b29), .val (.ref b84), .val (.ref b113), .val (.ref b120), .unset] [])) _
          refine XS.iconst X128.here hx rfl (hb hby at_174) ?_
          show Steps p.tables e below (T128.setTop (mkF m 175 #[.val (.int fl), .val (.long cl), .second, .val (.int cc), .val (.int v3), .val (.int v7), .val (.int v11), .val (.int v15), .val (.int v19), .val (.int v23), .val (.ref b25), .val (.ref b29), .val (.ref b84), .val (.ref b113), .val (.ref b120), .unset] [(.int (1 : Int32))])) _
          refine XS.istore X128.here hx rfl (hb hby at_175) rfl (l' := #[.val (.int fl), .val (.long cl), .second, .val (.int cc), .val (.int v3), .val (.int v7), .val (.int v11), .val (.int v15), .val (.int v19), .val (.int v23), .val (.ref b25), .val (.ref b29), .val (.ref b84), .val (.ref b113), .val (.ref b120), .val (.int (1 : Int32))]) rfl ?_
          show Steps p.tables e below (T128.setTop (mkF m 177 #[.val (.int fl), .val (.long cl), .second, .val (.int cc), .val (.int v3), .val (.int v7), .val (.int v11), .val (.int v15), .val (.int v19), .val (.int v23), .val (.ref b25), .val (.ref b29), .val (.ref b84), .val (.ref b113), .val (.ref b120), .val (.int (1 : Int32))] [])) _
          refine XS.goto X128.here hx rfl (pc0 := 177) (pc' := 194) rfl (hb hby at_177) (by decide) (by decide) ?_
          show Steps p.tables e below (T128.setTop (mkF m 194 #[.val (.int fl), .val (.long cl), .second, .val (.int cc), .val (.int v3), .val (.int v7), .val (.int v11), .val (.int v15), .val (.int v19), .val (.int v23), .val (.ref b25), .val (.ref b29), .val (.ref b84), .val (.ref b113), .val (.ref b120), .val (.int (1 : Int32))] [])) _
          refine XS.aload X128.here hx rfl (hb hby at_194) rfl rfl ?_
          show Steps p.tables e below (T128.setTop (mkF m 196 #[.val (.int fl), .val (.long cl), .second, .val (.int cc), .val (.int v3), .val (.int v7), .val (.int v11), .val (.int v15), .val (.int v19), .val (.int v23), .val (.ref b25), .val (.ref b29), .val (.ref b84), .val (.ref b113), .val (.ref b120), .val (.int (1 : Int32))] [(.ref b120)])) _
          refine st142.trans ?_
          show Steps p.tables e below (T142.setTop (mkF m 199 #[.val (.int fl), .val (.long cl), .second, .val (.int cc), .val (.int v3), .val (.int v7), .val (.int v11), .val (.int v15), .val (.int v19), .val (.int v23), .val (.ref b25), .val (.ref b29), .val (.ref b84), .val (.ref b113), .val (.ref b120), .val (.int (1 : Int32))] [(.int (own_cl (v7 &&& 1) (v3 &&& 1)))])) _
          refine XS.iload X142.here hx rfl (hb hby at_199) rfl ?_
          show Steps p.tables e below (T142.setTop (mkF m 201 #[.val (.int fl), .val (.long cl), .second, .val (.int cc), .val (.int v3), .val (.int v7), .val (.int v11), .val (.int v15), .val (.int v19), .val (.int v23), .val (.ref b25), .val (.ref b29), .val (.ref b84), .val (.ref b113), .val (.ref b120), .val (.int (1 : Int32))] [(.int (1 : Int32)), (.int (own_cl (v7 &&& 1) (v3 &&& 1)))])) _
          refine XS.icmpNo X142.here hx rfl (hb hby at_201) rfl (teq (show own_cl (v7 &&& 1) (v3 &&& 1) = (1 : Int32) from by rw [bv7, bv3]; unfold own_cl; rw [if_neg hc137]; split <;> rfl)).2 ?_
          show Steps p.tables e below (T142.setTop (mkF m 204 #[.val (.int fl), .val (.long cl), .second, .val (.int cc), .val (.int v3), .val (.int v7), .val (.int v11), .val (.int v15), .val (.int v19), .val (.int v23), .val (.ref b25), .val (.ref b29), .val (.ref b84), .val (.ref b113), .val (.ref b120), .val (.int (1 : Int32))] [])) _
          refine XS.iconst X142.here hx rfl (hb hby at_204) ?_
          show Steps p.tables e below (T142.setTop (mkF m 205 #[.val (.int fl), .val (.long cl), .second, .val (.int cc), .val (.int v3), .val (.int v7), .val (.int v11), .val (.int v15), .val (.int v19), .val (.int v23), .val (.ref b25), .val (.ref b29), .val (.ref b84), .val (.ref b113), .val (.ref b120), .val (.int (1 : Int32))] [(.int (1 : Int32))])) _
          refine XS.goto X142.here hx rfl (pc0 := 205) (pc' := 209) rfl (hb hby at_205) (by decide) (by decide) ?_
          show Steps p.tables e below (T142.setTop (mkF m 209 #[.val (.int fl), .val (.long cl), .second, .val (.int cc), .val (.int v3), .val (.int v7), .val (.int v11), .val (.int v15), .val (.int v19), .val (.int v23), .val (.ref b25), .val (.ref b29), .val (.ref b84), .val (.ref b113), .val (.ref b120), .val (.int (1 : Int32))] [(.int (1 : Int32))])) _
          exact retN X142 hx (t := .boolean) Bd.returns (by simp) (hb hby at_209) hr
        · show own_Q0 Z fl cl cc w h0 n0 _ T142.heap _
          rw [e142]
          exact ⟨rfl, N142⟩
set_option maxRecDepth 65536 in
set_option maxHeartbeats 40000000 in
theorem comes_1 {Post : Tables → Env → Array Value → State → Outcome → State → Prop} (hpost : ∀ tb e args s v u, (limb_1_1.after args s (.returned v) u = true ∧ limb_1_2.after args s (.returned v) u = true ∧ True) → FrameEnd s (.returned v) u (Jvm.fieldLocs frame_1_writes args s ++ Jvm.arrayLocs frame_1_arrays args s ++ Jvm.staticLocs frame_1_statics s) 24 128 → Post tb e args s (.returned v) u) :
    ArmFor flags0 classFile x code maxLocals ret World_1 tables_1 room_1 Calls_1 rest_1 Pre_1 Post := by
  intro l hfl _ _ p e ha hc hk s m args below hf hA hF happ hP
  obtain ⟨hcalls, hrest, hpre⟩ := hP
  obtain ⟨-, -, -, hnamed, -, -, -, hat⟩ := (Spec.applies_iff hf).mp happ
  obtain ⟨hg, hn⟩ := and_e (Cond.before_iff.mp (show (Jvm.Cond.and given_1 narrow_1).before args s = true from hpre))
  obtain ⟨hcount, hg0⟩ := and_e hg
  obtain ⟨hv0, hg1⟩ := and_e hg0
  obtain ⟨hv1, hg2⟩ := and_e hg1
  have hv2 := hg2
  obtain ⟨w0, w1, w2, rfl⟩ : ∃ w0 w1 w2 : Value, args = #[w0, w1, w2] := by
    have hs : args.size = 3 := by simpa [Cond.value, given_1] using hcount
    obtain ⟨L⟩ := args
    match L, hs with
    | [w0, w1, w2], _ => exact ⟨w0, w1, w2, rfl⟩
  have hw := fun d (hd : d ∈ tables_1) => atoms_spec (ws := Jvm.Cond.code x code maxLocals ret :: tables_1) hat d (List.mem_cons_of_mem _ hd)
  have hfit : Fit s := fun {y c} hc i hi => by
    obtain ⟨ha, rfl⟩ := Array.getElem?_eq_some_iff.mp hc
    have q := List.all_eq_true.mp ((Array.all_eq_true_iff_forall_mem.mp hF) _ (Array.getElem_mem ha)) i (List.mem_range.mpr hi)
    simpa [Array.getElem?_eq_getElem hi] using q
  obtain ⟨i0, ei0⟩ := is_v hv0
  obtain rfl : w0 = (.int i0) := Option.some.inj ei0
  obtain ⟨i1, ei1⟩ := isL_v hv1
  obtain rfl : w1 = (.long i1) := Option.some.inj ei1
  obtain ⟨i2, ei2⟩ := is_v hv2
  obtain rfl : w2 = (.int i2) := Option.some.inj ei2
  obtain ⟨hsets, hown0⟩ := atoms_of _ (rest_1_c_eq ▸ (show rest_1_c.before _ s = true from hrest))
  obtain ⟨w, ew⟩ := is_v (Cond.before_iff.mp (hsets _ (List.mem_of_getElem? (i := 1) rfl)))
  have S0 : Sta s s.heap "java/lang/String" "COMPACT_STRINGS" "Z" (.int w) := Sta.start ew (Or.inl (hsets _ (List.mem_of_getElem? (i := 0) rfl)))
  have hw0 : ¬ w = (0 : Int32) := fun q => by
    have q2 := not_v (Cond.before_iff.mp (hsets _ (List.mem_of_getElem? (i := 2) rfl)))
    rw [eq_i ew (Term.int_eval (0)) (by rw [q])] at q2
    cases q2
  obtain ⟨n, o, h1, h2, h3, _, L, rfl, ⟨rfl, N⟩, hq⟩ := rm0 l s _ hw tables_1 i0 i1 i2 w s.heap s.heap.size (Nat.le_refl _) S0 hw0 p e ha hc hk s m _ below hf ((Spec.applies_iff_loose hf).mp happ).1 ⟨rfl, State.Warmed39.refl s, rfl⟩ trivial
  refine ⟨n, _, h1, h2, h3, hpost _ _ _ _ _ _ ⟨Cond.after_iff.mpr rfl, Cond.after_iff.mpr (eq_i res_at (Term.int_eval (1)) rfl), trivial⟩ ⟨hq.1, hq.2.1, (hq.2.2.sift fun y hy => Or.inr (N y hy)).mono (by decide) (by decide)⟩⟩
theorem main_1_1 : Claimed_1_1 := comes_1 fun _ _ _ _ _ _ h hF => ⟨h.1, hF⟩
theorem main_1_2 : Claimed_1_2 := comes_1 fun _ _ _ _ _ _ h hF => ⟨h.2.1, hF⟩
end Jvm.Pilot.@@N@@
namespace Jvm.Pilot.@@N@@
open Jvm Jvm.ClassFile Sem Op Lib Jvm.Free Jvm.Stand Jvm.Pilot.@@N@@.Jvm.D
/-! MADE BY PROGRAM (witnessworld.py) out of the Statement's table words and the real class files: 15 classes; the members and pool entries that the words name. The judged class is class 1, her method 1. -/
namespace start1
open Jvm.ClassFile
def u (s : String) : CpInfo := .utf8 (stringToUtf16 s)
/-- a pool by its gaps: so many unusable entries, then the entry; so many at the end -/
def gap : Nat → List CpInfo → List CpInfo
  | 0, r => r
  | n + 1, r => .unusable :: gap n r
def poolList (es : List (Nat × CpInfo)) (last : Nat) : List CpInfo := es.foldr (fun e r => gap e.1 (e.2 :: r)) (gap last [])
def pool (es : List (Nat × CpInfo)) (last : Nat) : Array CpInfo := ⟨poolList es last⟩
def fileOf (pool : Array CpInfo) (this : Nat) (attrs : Array Attribute := #[]) (ms : Array MethodInfo := #[]) (fl : Nat := 33) (sup : Nat := 0) (ifs : Array Nat := #[]) (fds : Array FieldInfo := #[]) : ClassFile where
  minorVersion := 0
  majorVersion := 65
  constantPool := pool
  accessFlags := fl
  thisClass := this
  superClass := sup
  interfaces := ifs
  fields := fds
  methods := ms
  attributes := attrs
def plain (name : String) (sup : Option ClassId) : Class where
  name := name
  kind := .ordinary
  loader := none
  accessFlags := 33
  super := sup
  interfaces := #[]
  cf := none
  fields := #[]
  methods := #[]
  instanceTypes := #[]
  staticTypes := #[]
  resolved := #[]
  callSites := []
  init := .initialized
  statics := none
  mirror := none

def pool0 : Array CpInfo := pool [(5, u "<init>"), (0, u "()V"), (1, .class_ 10), (1, u "java/lang/Object")] 113

def k0c0 : Code := { maxStack := 0, maxLocals := 1, code := object_method_1_code, exceptionTable := #[], attributes := #[] }
def k0m0 : Method := { name := "<init>", desc := "()V", sig := { parameters := [], returnType := none }, accessFlags := 1, code := some k0c0 }
/-- java/lang/Object -/
def k0 : Class := { plain "java/lang/Object" none with
  accessFlags := 33
  interfaces := #[]
  cf := some (fileOf pool0 8 #[] #[{ accessFlags := 1, nameIndex := 5, descriptorIndex := 6, attributes := #[] }] 33 0 #[] #[])
  fields := #[]
  methods := #[k0m0]
  instanceTypes := #[]
  staticTypes := #[]
  resolved := Array.replicate 124 none
  statics := none }

def pool1 : Array CpInfo := pool [(2, .class_ 4), (1, u "java/lang/Object"), (0, u "<init>"), (0, u "()V"), (0, .methodref 8 9), (0, .class_ 10), (0, .nameAndType 11 12), (0, u "java/lang/String"), (0, u "valueOf"), (0, u "(C)Ljava/lang/String;"), (0, .class_ 14), (0, u "com/example/hatchd/hatchd/server/RequestReader$Request"), (0, .methodref 13 16), (0, .nameAndType 5 17), (0, u "(Ljava/lang/String;Ljava/lang/String;Ljava/lang/String;ZZZJZ[B)V"), (0, .methodref 13 19), (0, .nameAndType 20 21), (0, u "closes"), (0, u "()Z"), (0, .class_ 23), (0, u "com/example/hatchd/hatchd/server/RequestClosesPinLaw"), (2, u "law"), (0, u "(IJI)Z")] 9

def k1m0 : Method := { name := "<init>", desc := "()V", sig := { parameters := [], returnType := none }, accessFlags := 1, code := none }
def k1c1 : Code := { maxStack := 12, maxLocals := 16, code := code, exceptionTable := #[], attributes := #[] }
def k1m1 : Method := { name := "law", desc := "(IJI)Z", sig := { parameters := [.int, .long, .int], returnType := some .boolean }, accessFlags := 9, code := some k1c1 }
/-- com/example/hatchd/hatchd/server/RequestClosesPinLaw -/
def k1 : Class := { plain "com/example/hatchd/hatchd/server/RequestClosesPinLaw" (some 0) with
  accessFlags := 49
  interfaces := #[]
  cf := some (fileOf pool1 22 #[] #[{ accessFlags := 1, nameIndex := 5, descriptorIndex := 6, attributes := #[] }, { accessFlags := 9, nameIndex := 26, descriptorIndex := 27, attributes := #[] }] 49 2 #[] #[])
  fields := #[]
  methods := #[k1m0, k1m1]
  instanceTypes := #[]
  staticTypes := #[]
  resolved := Array.replicate 37 none
  statics := none }

def pool2 : Array CpInfo := pool [(1, .class_ 2), (0, u "java/io/Serializable"), (0, .class_ 4), (0, u "java/lang/Object")] 2

/-- java/io/Serializable -/
def k2 : Class := { plain "java/io/Serializable" (some 0) with
  accessFlags := 1537
  interfaces := #[]
  cf := some (fileOf pool2 1 #[] #[] 1537 3 #[] #[])
  fields := #[]
  methods := #[]
  instanceTypes := #[]
  staticTypes := #[]
  resolved := Array.replicate 7 none
  statics := none }

def pool3 : Array CpInfo := pool [(1, .class_ 2), (0, u "java/lang/Comparable"), (0, .class_ 4), (0, u "java/lang/Object")] 7

/-- java/lang/Comparable -/
def k3 : Class := { plain "java/lang/Comparable" (some 0) with
  accessFlags := 1537
  interfaces := #[]
  cf := some (fileOf pool3 1 #[] #[] 1537 3 #[] #[])
  fields := #[]
  methods := #[]
  instanceTypes := #[]
  staticTypes := #[]
  resolved := Array.replicate 12 none
  statics := none }

def pool4 : Array CpInfo := pool [(2, .class_ 4), (1, u "java/lang/CharSequence"), (42, .class_ 48), (0, u "java/lang/CharSequence$1CodePointIterator"), (10, .class_ 60), (0, u "java/lang/CharSequence$1CharIterator"), (5, .class_ 67), (0, u "java/lang/Object")] 63

/-- java/lang/CharSequence -/
def k4 : Class := { plain "java/lang/CharSequence" (some 0) with
  accessFlags := 1537
  interfaces := #[]
  cf := some (fileOf pool4 2 #[.nestMembers #[47, 59]] #[] 1537 66 #[] #[])
  fields := #[]
  methods := #[]
  instanceTypes := #[]
  staticTypes := #[]
  resolved := Array.replicate 131 none
  statics := none }

def pool5 : Array CpInfo := pool [(1, .class_ 2), (0, u "java/lang/constant/Constable"), (0, .class_ 4), (0, u "java/lang/Object")] 6

/-- java/lang/constant/Constable -/
def k5 : Class := { plain "java/lang/constant/Constable" (some 0) with
  accessFlags := 1537
  interfaces := #[]
  cf := some (fileOf pool5 1 #[] #[] 1537 3 #[] #[])
  fields := #[]
  methods := #[]
  instanceTypes := #[]
  staticTypes := #[]
  resolved := Array.replicate 11 none
  statics := none }

def pool6 : Array CpInfo := pool [(1, .class_ 2), (0, u "java/lang/constant/ConstantDesc"), (0, .class_ 4), (0, u "java/lang/Object")] 32

/-- java/lang/constant/ConstantDesc -/
def k6 : Class := { plain "java/lang/constant/ConstantDesc" (some 0) with
  accessFlags := 1537
  interfaces := #[]
  cf := some (fileOf pool6 1 #[] #[] 1537 3 #[] #[])
  fields := #[]
  methods := #[]
  instanceTypes := #[]
  staticTypes := #[]
  resolved := Array.replicate 37 none
  statics := none }

def pool7 : Array CpInfo := pool [(1, .methodref 2 3), (0, .class_ 4), (0, .nameAndType 5 6), (0, u "java/lang/Object"), (0, u "<init>"), (0, u "()V"), (2, .fieldref 10 11), (0, .class_ 12), (0, .nameAndType 13 14), (0, u "java/lang/String"), (0, u "value"), (0, u "[B"), (0, .fieldref 10 16), (0, .nameAndType 17 18), (0, u "coder"), (0, u "B"), (2, u "hash"), (0, u "I"), (2, u "hashIsZero"), (0, u "Z"), (11, .fieldref 10 39), (0, .nameAndType 40 26), (0, u "COMPACT_STRINGS"), (12, u "toBytes"), (53, .class_ 109), (1, u "java/lang/StringLatin1"), (99, .methodref 10 210), (0, .nameAndType 5 211), (0, u "([BB)V"), (157, u "(C)Z"), (205, .class_ 576), (0, u "java/lang/CharSequence"), (22, u "CASE_INSENSITIVE_ORDER"), (0, u "Ljava/util/Comparator;"), (181, u "valueOf"), (0, u "(C)Ljava/lang/String;"), (231, .methodref 107 1016), (0, .nameAndType 1017 369), (0, u "canEncode"), (0, .methodref 107 1019), (0, .nameAndType 53 1020), (0, u "(C)[B"), (80, u "serialPersistentFields"), (0, u "[Ljava/io/ObjectStreamField;"), (0, .class_ 1104), (0, u "java/lang/String$CaseInsensitiveComparator"), (1, .class_ 1107), (0, u "java/io/Serializable"), (0, .class_ 1109), (0, u "java/lang/Comparable"), (0, .class_ 1111), (0, u "java/lang/constant/Constable"), (0, .class_ 1113), (0, u "java/lang/constant/ConstantDesc"), (2, u "serialVersionUID"), (0, u "J"), (3, u "REPL"), (0, u "C"), (2, u "LATIN1"), (1, u "UTF16")] 323

def k7m0 : Method := { name := "<init>", desc := "()V", sig := { parameters := [], returnType := none }, accessFlags := 1, code := none }
def k7c1 : Code := { maxStack := 4, maxLocals := 1, code := jdk_42_method_139_code, exceptionTable := #[], attributes := #[] }
def k7m1 : Method := { name := "valueOf", desc := "(C)Ljava/lang/String;", sig := { parameters := [.char], returnType := some (.object "java/lang/String") }, accessFlags := 9, code := some k7c1 }
def k7c2 : Code := { maxStack := 2, maxLocals := 3, code := jdk_42_method_151_code, exceptionTable := #[], attributes := #[] }
def k7m2 : Method := { name := "<init>", desc := "([BB)V", sig := { parameters := [(.array .byte), .byte], returnType := none }, accessFlags := 0, code := some k7c2 }
/-- java/lang/String -/
def k7 : Class := { plain "java/lang/String" (some 0) with
  accessFlags := 49
  interfaces := #[2, 3, 4, 5, 6]
  cf := some (fileOf pool7 10 #[.nestMembers #[1103]] #[{ accessFlags := 1, nameIndex := 5, descriptorIndex := 6, attributes := #[] }, { accessFlags := 9, nameIndex := 782, descriptorIndex := 783, attributes := #[] }, { accessFlags := 0, nameIndex := 5, descriptorIndex := 211, attributes := #[] }] 49 2 #[1106, 1108, 575, 1110, 1112] #[{ accessFlags := 18, nameIndex := 13, descriptorIndex := 14, attributes := #[] }, { accessFlags := 18, nameIndex := 17, descriptorIndex := 18, attributes := #[] }, { accessFlags := 2, nameIndex := 21, descriptorIndex := 22, attributes := #[] }, { accessFlags := 2, nameIndex := 25, descriptorIndex := 26, attributes := #[] }, { accessFlags := 26, nameIndex := 1116, descriptorIndex := 1117, attributes := #[] }, { accessFlags := 24, nameIndex := 40, descriptorIndex := 26, attributes := #[] }, { accessFlags := 26, nameIndex := 1101, descriptorIndex := 1102, attributes := #[] }, { accessFlags := 26, nameIndex := 1121, descriptorIndex := 1122, attributes := #[] }, { accessFlags := 25, nameIndex := 599, descriptorIndex := 600, attributes := #[] }, { accessFlags := 24, nameIndex := 1125, descriptorIndex := 18, attributes := #[] }, { accessFlags := 24, nameIndex := 1127, descriptorIndex := 18, attributes := #[] }])
  fields := #[{ name := "value", type := (.array .byte), accessFlags := 18, slot := 0, constantValue := 0 }, { name := "coder", type := .byte, accessFlags := 18, slot := 1, constantValue := 0 }, { name := "hash", type := .int, accessFlags := 2, slot := 2, constantValue := 0 }, { name := "hashIsZero", type := .boolean, accessFlags := 2, slot := 3, constantValue := 0 }, { name := "serialVersionUID", type := .long, accessFlags := 26, slot := 0, constantValue := 0 }, { name := "COMPACT_STRINGS", type := .boolean, accessFlags := 24, slot := 1, constantValue := 0 }, { name := "serialPersistentFields", type := (.array (.object "java/io/ObjectStreamField")), accessFlags := 26, slot := 2, constantValue := 0 }, { name := "REPL", type := .char, accessFlags := 26, slot := 3, constantValue := 0 }, { name := "CASE_INSENSITIVE_ORDER", type := (.object "java/util/Comparator"), accessFlags := 25, slot := 4, constantValue := 0 }, { name := "LATIN1", type := .byte, accessFlags := 24, slot := 5, constantValue := 0 }, { name := "UTF16", type := .byte, accessFlags := 24, slot := 6, constantValue := 0 }]
  methods := #[k7m0, k7m1, k7m2]
  instanceTypes := #[(.array .byte), .byte, .int, .boolean]
  staticTypes := #[.long, .boolean, (.array (.object "java/io/ObjectStreamField")), .char, (.object "java/util/Comparator"), .byte, .byte]
  resolved := Array.replicate 1451 none
  statics := some 0 }

def pool8 : Array CpInfo := pool [(4, .class_ 6), (1, u "java/lang/Object"), (0, u "<init>"), (0, u "()V"), (5, .class_ 16), (1, u "java/lang/StringLatin1"), (73, u "canEncode"), (14, u "(C)Z"), (15, u "$assertionsDisabled"), (0, u "Z"), (98, .class_ 223), (1, u "java/lang/StringLatin1$LinesSpliterator"), (156, u "toBytes"), (1, u "(C)[B"), (7, .class_ 391), (0, u "java/lang/StringLatin1$CharsSpliterator")] 3

def k8m0 : Method := { name := "<init>", desc := "()V", sig := { parameters := [], returnType := none }, accessFlags := 0, code := none }
def k8c1 : Code := { maxStack := 2, maxLocals := 1, code := jdk_43_method_3_code, exceptionTable := #[], attributes := #[] }
def k8m1 : Method := { name := "canEncode", desc := "(C)Z", sig := { parameters := [.char], returnType := some .boolean }, accessFlags := 9, code := some k8c1 }
def k8c2 : Code := { maxStack := 4, maxLocals := 1, code := jdk_43_method_46_code, exceptionTable := #[], attributes := #[] }
def k8m2 : Method := { name := "toBytes", desc := "(C)[B", sig := { parameters := [.char], returnType := some (.array .byte) }, accessFlags := 9, code := some k8c2 }
/-- java/lang/StringLatin1 -/
def k8 : Class := { plain "java/lang/StringLatin1" (some 0) with
  accessFlags := 48
  interfaces := #[]
  cf := some (fileOf pool8 14 #[.nestMembers #[390, 221]] #[{ accessFlags := 0, nameIndex := 7, descriptorIndex := 8, attributes := #[] }, { accessFlags := 9, nameIndex := 90, descriptorIndex := 105, attributes := #[] }, { accessFlags := 9, nameIndex := 380, descriptorIndex := 382, attributes := #[] }] 48 4 #[] #[{ accessFlags := 4120, nameIndex := 121, descriptorIndex := 122, attributes := #[] }])
  fields := #[{ name := "$assertionsDisabled", type := .boolean, accessFlags := 4120, slot := 0, constantValue := 0 }]
  methods := #[k8m0, k8m1, k8m2]
  instanceTypes := #[]
  staticTypes := #[.boolean]
  resolved := Array.replicate 395 none
  statics := none }

def pool9 : Array CpInfo := pool [(1, .methodref 2 3), (0, .class_ 4), (0, .nameAndType 5 6), (0, u "java/lang/Object"), (0, u "<init>"), (0, u "()V"), (0, .fieldref 8 9), (0, .class_ 10), (0, .nameAndType 11 12), (0, u "com/example/hatchd/hatchd/server/RequestReader$Request"), (0, u "method"), (0, u "Ljava/lang/String;"), (0, .fieldref 8 14), (0, .nameAndType 15 12), (0, u "path"), (0, .fieldref 8 17), (0, .nameAndType 18 12), (0, u "query"), (0, .fieldref 8 20), (0, .nameAndType 21 22), (0, u "http10"), (0, u "Z"), (0, .fieldref 8 24), (0, .nameAndType 25 22), (0, u "close"), (0, .fieldref 8 27), (0, .nameAndType 28 22), (0, u "chunked"), (0, .fieldref 8 30), (0, .nameAndType 31 32), (0, u "contentLength"), (0, u "J"), (0, .fieldref 8 34), (0, .nameAndType 35 22), (0, u "expectsContinue"), (0, .fieldref 8 37), (0, .nameAndType 38 39), (0, u "body"), (0, u "[B"), (2, u "(Ljava/lang/String;Ljava/lang/String;Ljava/lang/String;ZZZJZ[B)V"), (3, u "closes"), (0, u "()Z"), (8, .class_ 57), (0, u "com/example/hatchd/hatchd/server/RequestReader")] 2

def k9c0 : Code := { maxStack := 3, maxLocals := 11, code := prog_41_method_1_code, exceptionTable := #[], attributes := #[] }
def k9m0 : Method := { name := "<init>", desc := "(Ljava/lang/String;Ljava/lang/String;Ljava/lang/String;ZZZJZ[B)V", sig := { parameters := [(.object "java/lang/String"), (.object "java/lang/String"), (.object "java/lang/String"), .boolean, .boolean, .boolean, .long, .boolean, (.array .byte)], returnType := none }, accessFlags := 0, code := some k9c0 }
def k9c1 : Code := { maxStack := 1, maxLocals := 1, code := prog_41_method_5_code, exceptionTable := #[], attributes := #[] }
def k9m1 : Method := { name := "closes", desc := "()Z", sig := { parameters := [], returnType := some .boolean }, accessFlags := 0, code := some k9c1 }
/-- com/example/hatchd/hatchd/server/RequestReader$Request -/
def k9 : Class := { plain "com/example/hatchd/hatchd/server/RequestReader$Request" (some 0) with
  accessFlags := 32
  interfaces := #[]
  cf := some (fileOf pool9 8 #[.nestHost 56] #[{ accessFlags := 0, nameIndex := 5, descriptorIndex := 42, attributes := #[] }, { accessFlags := 0, nameIndex := 46, descriptorIndex := 47, attributes := #[] }] 32 2 #[] #[{ accessFlags := 18, nameIndex := 11, descriptorIndex := 12, attributes := #[] }, { accessFlags := 18, nameIndex := 15, descriptorIndex := 12, attributes := #[] }, { accessFlags := 18, nameIndex := 18, descriptorIndex := 12, attributes := #[] }, { accessFlags := 18, nameIndex := 21, descriptorIndex := 22, attributes := #[] }, { accessFlags := 18, nameIndex := 25, descriptorIndex := 22, attributes := #[] }, { accessFlags := 18, nameIndex := 28, descriptorIndex := 22, attributes := #[] }, { accessFlags := 18, nameIndex := 31, descriptorIndex := 32, attributes := #[] }, { accessFlags := 18, nameIndex := 35, descriptorIndex := 22, attributes := #[] }, { accessFlags := 18, nameIndex := 38, descriptorIndex := 39, attributes := #[] }])
  fields := #[{ name := "method", type := (.object "java/lang/String"), accessFlags := 18, slot := 0, constantValue := 0 }, { name := "path", type := (.object "java/lang/String"), accessFlags := 18, slot := 1, constantValue := 0 }, { name := "query", type := (.object "java/lang/String"), accessFlags := 18, slot := 2, constantValue := 0 }, { name := "http10", type := .boolean, accessFlags := 18, slot := 3, constantValue := 0 }, { name := "close", type := .boolean, accessFlags := 18, slot := 4, constantValue := 0 }, { name := "chunked", type := .boolean, accessFlags := 18, slot := 5, constantValue := 0 }, { name := "contentLength", type := .long, accessFlags := 18, slot := 6, constantValue := 0 }, { name := "expectsContinue", type := .boolean, accessFlags := 18, slot := 7, constantValue := 0 }, { name := "body", type := (.array .byte), accessFlags := 18, slot := 8, constantValue := 0 }]
  methods := #[k9m0, k9m1]
  instanceTypes := #[(.object "java/lang/String"), (.object "java/lang/String"), (.object "java/lang/String"), .boolean, .boolean, .boolean, .long, .boolean, (.array .byte)]
  staticTypes := #[]
  resolved := Array.replicate 60 none
  statics := none }

def pool10 : Array CpInfo := pool [(2, .class_ 4), (1, u "java/lang/Object"), (0, u "<init>"), (0, u "()V"), (17, .class_ 26), (1, u "jdk/internal/util/Preconditions"), (28, .class_ 56), (0, u "jdk/internal/util/Preconditions$4"), (57, .class_ 115), (0, u "jdk/internal/util/Preconditions$1"), (7, u "SIOOBE_FORMATTER"), (0, u "Ljava/util/function/BiFunction;"), (0, .class_ 126), (0, u "jdk/internal/util/Preconditions$2"), (3, u "AIOOBE_FORMATTER"), (0, .class_ 132), (0, u "jdk/internal/util/Preconditions$3"), (3, u "IOOBE_FORMATTER")] 57

def k10m0 : Method := { name := "<init>", desc := "()V", sig := { parameters := [], returnType := none }, accessFlags := 1, code := none }
/-- jdk/internal/util/Preconditions -/
def k10 : Class := { plain "jdk/internal/util/Preconditions" (some 0) with
  accessFlags := 33
  interfaces := #[]
  cf := some (fileOf pool10 24 #[.nestMembers #[55, 131, 125, 114]] #[{ accessFlags := 1, nameIndex := 5, descriptorIndex := 6, attributes := #[] }] 33 2 #[] #[{ accessFlags := 25, nameIndex := 123, descriptorIndex := 124, attributes := #[] }, { accessFlags := 25, nameIndex := 130, descriptorIndex := 124, attributes := #[] }, { accessFlags := 25, nameIndex := 136, descriptorIndex := 124, attributes := #[] }])
  fields := #[{ name := "SIOOBE_FORMATTER", type := (.object "java/util/function/BiFunction"), accessFlags := 25, slot := 0, constantValue := 0 }, { name := "AIOOBE_FORMATTER", type := (.object "java/util/function/BiFunction"), accessFlags := 25, slot := 1, constantValue := 0 }, { name := "IOOBE_FORMATTER", type := (.object "java/util/function/BiFunction"), accessFlags := 25, slot := 2, constantValue := 0 }]
  methods := #[k10m0]
  instanceTypes := #[]
  staticTypes := #[(.object "java/util/function/BiFunction"), (.object "java/util/function/BiFunction"), (.object "java/util/function/BiFunction")]
  resolved := Array.replicate 194 none
  statics := some 1 }

def pool11 : Array CpInfo := pool [(9, u "<init>"), (6, .class_ 18), (1, u "java/lang/Object"), (0, u "()V"), (1, .class_ 23), (1, u "jdk/internal/util/ArraysSupport"), (0, u "LOG2_ARRAY_LONG_INDEX_SCALE"), (0, u "I"), (2, u "U"), (0, u "Ljdk/internal/misc/Unsafe;"), (8, u "BIG_ENDIAN"), (0, u "Z"), (8, u "LOG2_BYTE_BIT_SIZE"), (4, u "LOG2_ARRAY_INT_INDEX_SCALE"), (54, u "JLA"), (0, u "Ljdk/internal/access/JavaLangAccess;"), (11, u "LOG2_ARRAY_BOOLEAN_INDEX_SCALE"), (9, u "LOG2_ARRAY_BYTE_INDEX_SCALE"), (5, u "LOG2_ARRAY_CHAR_INDEX_SCALE"), (5, u "LOG2_ARRAY_SHORT_INDEX_SCALE"), (18, u "LOG2_ARRAY_FLOAT_INDEX_SCALE"), (24, u "LOG2_ARRAY_DOUBLE_INDEX_SCALE"), (89, u "T_BOOLEAN"), (2, u "T_CHAR"), (1, u "T_FLOAT"), (1, u "T_DOUBLE"), (1, u "T_BYTE"), (1, u "T_SHORT"), (1, u "T_INT"), (1, u "T_LONG"), (1, u "SOFT_MAX_ARRAY_LENGTH")] 83

def k11m0 : Method := { name := "<init>", desc := "()V", sig := { parameters := [], returnType := none }, accessFlags := 2, code := none }
/-- jdk/internal/util/ArraysSupport -/
def k11 : Class := { plain "jdk/internal/util/ArraysSupport" (some 0) with
  accessFlags := 33
  interfaces := #[]
  cf := some (fileOf pool11 21 #[] #[{ accessFlags := 2, nameIndex := 9, descriptorIndex := 19, attributes := #[] }] 33 16 #[] #[{ accessFlags := 24, nameIndex := 28, descriptorIndex := 29, attributes := #[] }, { accessFlags := 26, nameIndex := 38, descriptorIndex := 39, attributes := #[] }, { accessFlags := 25, nameIndex := 121, descriptorIndex := 25, attributes := #[] }, { accessFlags := 25, nameIndex := 131, descriptorIndex := 25, attributes := #[] }, { accessFlags := 25, nameIndex := 137, descriptorIndex := 25, attributes := #[] }, { accessFlags := 25, nameIndex := 143, descriptorIndex := 25, attributes := #[] }, { accessFlags := 25, nameIndex := 53, descriptorIndex := 25, attributes := #[] }, { accessFlags := 25, nameIndex := 24, descriptorIndex := 25, attributes := #[] }, { accessFlags := 25, nameIndex := 162, descriptorIndex := 25, attributes := #[] }, { accessFlags := 25, nameIndex := 187, descriptorIndex := 25, attributes := #[] }, { accessFlags := 26, nameIndex := 48, descriptorIndex := 25, attributes := #[] }, { accessFlags := 25, nameIndex := 277, descriptorIndex := 25, attributes := #[] }, { accessFlags := 25, nameIndex := 280, descriptorIndex := 25, attributes := #[] }, { accessFlags := 25, nameIndex := 282, descriptorIndex := 25, attributes := #[] }, { accessFlags := 25, nameIndex := 284, descriptorIndex := 25, attributes := #[] }, { accessFlags := 25, nameIndex := 286, descriptorIndex := 25, attributes := #[] }, { accessFlags := 25, nameIndex := 288, descriptorIndex := 25, attributes := #[] }, { accessFlags := 25, nameIndex := 290, descriptorIndex := 25, attributes := #[] }, { accessFlags := 25, nameIndex := 292, descriptorIndex := 25, attributes := #[] }, { accessFlags := 26, nameIndex := 108, descriptorIndex := 109, attributes := #[] }, { accessFlags := 25, nameIndex := 294, descriptorIndex := 25, attributes := #[] }])
  fields := #[{ name := "U", type := (.object "jdk/internal/misc/Unsafe"), accessFlags := 24, slot := 0, constantValue := 0 }, { name := "BIG_ENDIAN", type := .boolean, accessFlags := 26, slot := 1, constantValue := 0 }, { name := "LOG2_ARRAY_BOOLEAN_INDEX_SCALE", type := .int, accessFlags := 25, slot := 2, constantValue := 0 }, { name := "LOG2_ARRAY_BYTE_INDEX_SCALE", type := .int, accessFlags := 25, slot := 3, constantValue := 0 }, { name := "LOG2_ARRAY_CHAR_INDEX_SCALE", type := .int, accessFlags := 25, slot := 4, constantValue := 0 }, { name := "LOG2_ARRAY_SHORT_INDEX_SCALE", type := .int, accessFlags := 25, slot := 5, constantValue := 0 }, { name := "LOG2_ARRAY_INT_INDEX_SCALE", type := .int, accessFlags := 25, slot := 6, constantValue := 0 }, { name := "LOG2_ARRAY_LONG_INDEX_SCALE", type := .int, accessFlags := 25, slot := 7, constantValue := 0 }, { name := "LOG2_ARRAY_FLOAT_INDEX_SCALE", type := .int, accessFlags := 25, slot := 8, constantValue := 0 }, { name := "LOG2_ARRAY_DOUBLE_INDEX_SCALE", type := .int, accessFlags := 25, slot := 9, constantValue := 0 }, { name := "LOG2_BYTE_BIT_SIZE", type := .int, accessFlags := 26, slot := 10, constantValue := 0 }, { name := "T_BOOLEAN", type := .int, accessFlags := 25, slot := 11, constantValue := 0 }, { name := "T_CHAR", type := .int, accessFlags := 25, slot := 12, constantValue := 0 }, { name := "T_FLOAT", type := .int, accessFlags := 25, slot := 13, constantValue := 0 }, { name := "T_DOUBLE", type := .int, accessFlags := 25, slot := 14, constantValue := 0 }, { name := "T_BYTE", type := .int, accessFlags := 25, slot := 15, constantValue := 0 }, { name := "T_SHORT", type := .int, accessFlags := 25, slot := 16, constantValue := 0 }, { name := "T_INT", type := .int, accessFlags := 25, slot := 17, constantValue := 0 }, { name := "T_LONG", type := .int, accessFlags := 25, slot := 18, constantValue := 0 }, { name := "JLA", type := (.object "jdk/internal/access/JavaLangAccess"), accessFlags := 26, slot := 19, constantValue := 0 }, { name := "SOFT_MAX_ARRAY_LENGTH", type := .int, accessFlags := 25, slot := 20, constantValue := 0 }]
  methods := #[k11m0]
  instanceTypes := #[]
  staticTypes := #[(.object "jdk/internal/misc/Unsafe"), .boolean, .int, .int, .int, .int, .int, .int, .int, .int, .int, .int, .int, .int, .int, .int, .int, .int, .int, (.object "jdk/internal/access/JavaLangAccess"), .int]
  resolved := Array.replicate 378 none
  statics := none }

def pool12 : Array CpInfo := pool [(1, u "java/lang/Cloneable"), (0, .class_ 1), (0, u "java/lang/Object"), (0, .class_ 3)] 3

/-- java/lang/Cloneable -/
def k12 : Class := { plain "java/lang/Cloneable" (some 0) with
  accessFlags := 1537
  interfaces := #[]
  cf := some (fileOf pool12 2 #[] #[] 1537 4 #[] #[])
  fields := #[]
  methods := #[]
  instanceTypes := #[]
  staticTypes := #[]
  resolved := Array.replicate 8 none
  statics := none }

/-- the primitive byte -/
def k13 : Class := { plain "byte" none with kind := .primitive 'B', accessFlags := 0x411 }
/-- [B -/
def k14 : Class := { plain "[B" (some 0) with kind := .array 13 .byte, interfaces := #[12, 2], accessFlags := 1041 }

def heap : Heap := #[{ cls := 7, slots := #[.long 0, .int 1, .null, .int 0, .null, .int 0, .int 0], vm := .statics 7 },
  { cls := 10, slots := #[.null, .null, .null], vm := .statics 10 }]
def classes : Array Class := #[k0, k1, k2, k3, k4, k5, k6, k7, k8, k9, k10, k11, k12, k13, k14]
def interned : List (Array UInt16 × Addr) := []
def slotsUsed : Nat := 10
def theMethod : MethodId := ⟨1, 1⟩
def args0 : Array Value := #[.int 5, .long 7, .int 9]
def aboutOver (below : List Frame) : State where
  vm := { classes := classes, interned := interned.toArray }
  heap := heap
  slotsUsed := slotsUsed
  threads := #[{ frames := .invoking theMethod args0 :: below }]
def below0 : List Frame := [.native { method := ⟨0, 0⟩, args := #[] }]
def about1 : State := aboutOver below0
def p0 : Program := .bare "" "" ""
def e0 : Env := launch0.env 0 0 0
theorem w_frames : about1.frames = Frame.invoking theMethod args0 :: below0 := rfl
set_option maxRecDepth 65536 in
theorem w_args : argsFit about1.vm theMethod args0 = true := by decide +kernel
set_option maxRecDepth 65536 in
theorem w_heap : heapFits about1 = true := by decide +kernel
set_option maxRecDepth 65536 in
theorem w_runnable : about1.curStatus? = some .runnable := by decide +kernel
set_option maxRecDepth 65536 in
theorem w_alone : about1.alone = true := by decide +kernel
set_option maxRecDepth 65536 in
theorem w_named : about1.methodNamed? x = some theMethod := by decide +kernel
set_option maxRecDepth 65536 in
theorem w_hears : about1.hears theMethod below0 = true := by decide +kernel
set_option maxRecDepth 65536 in
theorem w_ripe : about1.ripe theMethod args0 below0 = true := by decide +kernel
theorem w_running : about1.status = .running := rfl
set_option maxRecDepth 65536 in
theorem w_room : about1.hasRoom e0.platform room_1 = true :=
  launch0.hasRoom_least _ room_1 (by decide +kernel) (by decide +kernel) (by decide +kernel) (by decide +kernel) (by decide +kernel) (by decide +kernel)
theorem allAtoms_all (ts : List Jvm.Cond) (a : Array Jvm.Value) (st : Jvm.State) : (allAtoms ts).before a st = ts.all (fun c => c.before a st) := by
  induction ts with
  | nil => rfl
  | cons c t ih =>
    show (Jvm.Cond.and c (allAtoms t)).before a st = _
    rw [Jvm.Cond.before_and, ih, List.all_cons]
def words1 : List Jvm.Cond := Jvm.Cond.code x code maxLocals ret :: tables_1
/-- a 'code' word, met by the world's own term for the bytes: nothing is compared byte by byte -/
theorem code_word {y : MethodName} {bytes : ByteArray} {mx : Nat} {rt : Option FieldType} {a : Array Value} {s : State} {m : MethodId} {meth : Method} {c : Code} (h1 : s.methodNamed? y = some m) (h2 : s.vm.method? m = some meth) (h3 : meth.code = some c) (h4 : c.code = bytes)
    (h5 : (c.maxLocals == mx && c.exceptionTable.isEmpty && decide (c.maxStack ≤ mostOperands) && decide (meth.sig.returnType = rt) && !meth.locks && decide (parseMethodDescriptor y.desc = some meth.sig)) = true) : (Jvm.Cond.code y bytes mx rt).before a s = true := by
  simp only [Bool.and_eq_true, beq_iff_eq, Bool.not_eq_true', decide_eq_true_eq] at h5
  obtain ⟨⟨⟨⟨⟨g1, g2⟩, g3⟩, g4⟩, g5⟩, g6⟩ := h5
  simp [Cond.before, Cond.holds, Cond.value, h1, h2, h3, h4, g1, g2, g3, g4, g5, g6]
def isCode : Jvm.Cond → Bool
  | .code _ _ _ _ => true
  | _ => false
theorem all_split {L : List Jvm.Cond} {P : Jvm.Cond → Bool} (h1 : L.all (fun c => isCode c || P c) = true) (h2 : ∀ c ∈ L.filter isCode, P c = true) : L.all P = true := by
  refine List.all_eq_true.mpr fun c hc => ?_
  have h := List.all_eq_true.mp h1 c hc
  rcases Bool.eq_false_or_eq_true (isCode c) with hi | hi
  · exact h2 c (List.mem_filter.mpr ⟨hc, hi⟩)
  · simpa [hi] using h
set_option maxRecDepth 65536 in
theorem w_c0 : (Jvm.Cond.code x code maxLocals ret).before args0 about1 = true := code_word (m := ⟨1, 1⟩) (meth := k1m1) (c := k1c1) (by decide +kernel) rfl rfl rfl (by decide +kernel)
set_option maxRecDepth 65536 in
theorem w_c1 : (Jvm.Cond.code ({ cls := "java/lang/String", name := "valueOf", desc := "(C)Ljava/lang/String;" } : Jvm.MethodName) jdk_42_method_139_code (1 : Nat) (Option.some (Jvm.ClassFile.FieldType.object "java/lang/String"))).before args0 about1 = true := code_word (m := ⟨7, 1⟩) (meth := k7m1) (c := k7c1) (by decide +kernel) rfl rfl rfl (by decide +kernel)
set_option maxRecDepth 65536 in
theorem w_c2 : (Jvm.Cond.code ({ cls := "java/lang/StringLatin1", name := "canEncode", desc := "(C)Z" } : Jvm.MethodName) jdk_43_method_3_code (1 : Nat) (Option.some Jvm.ClassFile.FieldType.boolean)).before args0 about1 = true := code_word (m := ⟨8, 1⟩) (meth := k8m1) (c := k8c1) (by decide +kernel) rfl rfl rfl (by decide +kernel)
set_option maxRecDepth 65536 in
theorem w_c3 : (Jvm.Cond.code ({ cls := "java/lang/StringLatin1", name := "toBytes", desc := "(C)[B" } : Jvm.MethodName) jdk_43_method_46_code (1 : Nat) (Option.some (Jvm.ClassFile.FieldType.array Jvm.ClassFile.FieldType.byte))).before args0 about1 = true := code_word (m := ⟨8, 2⟩) (meth := k8m2) (c := k8c2) (by decide +kernel) rfl rfl rfl (by decide +kernel)
set_option maxRecDepth 65536 in
theorem w_c4 : (Jvm.Cond.code ({ cls := "java/lang/String", name := "<init>", desc := "([BB)V" } : Jvm.MethodName) jdk_42_method_151_code (3 : Nat) (Option.none : Option Jvm.ClassFile.FieldType)).before args0 about1 = true := code_word (m := ⟨7, 2⟩) (meth := k7m2) (c := k7c2) (by decide +kernel) rfl rfl rfl (by decide +kernel)
set_option maxRecDepth 65536 in
theorem w_c5 : (Jvm.Cond.code ({ cls := "java/lang/Object", name := "<init>", desc := "()V" } : Jvm.MethodName) object_method_1_code (1 : Nat) (Option.none : Option Jvm.ClassFile.FieldType)).before args0 about1 = true := code_word (m := ⟨0, 0⟩) (meth := k0m0) (c := k0c0) (by decide +kernel) rfl rfl rfl (by decide +kernel)
set_option maxRecDepth 65536 in
theorem w_c6 : (Jvm.Cond.code ({ cls := "com/example/hatchd/hatchd/server/RequestReader$Request", name := "<init>", desc := "(Ljava/lang/String;Ljava/lang/String;Ljava/lang/String;ZZZJZ[B)V" } : Jvm.MethodName) prog_41_method_1_code (11 : Nat) (Option.none : Option Jvm.ClassFile.FieldType)).before args0 about1 = true := code_word (m := ⟨9, 0⟩) (meth := k9m0) (c := k9c0) (by decide +kernel) rfl rfl rfl (by decide +kernel)
set_option maxRecDepth 65536 in
theorem w_c7 : (Jvm.Cond.code ({ cls := "com/example/hatchd/hatchd/server/RequestReader$Request", name := "closes", desc := "()Z" } : Jvm.MethodName) prog_41_method_5_code (1 : Nat) (Option.some Jvm.ClassFile.FieldType.boolean)).before args0 about1 = true := code_word (m := ⟨9, 1⟩) (meth := k9m1) (c := k9c1) (by decide +kernel) rfl rfl rfl (by decide +kernel)
def codes1 : List Jvm.Cond := [Jvm.Cond.code x code maxLocals ret, Jvm.Cond.code ({ cls := "java/lang/String", name := "valueOf", desc := "(C)Ljava/lang/String;" } : Jvm.MethodName) jdk_42_method_139_code (1 : Nat) (Option.some (Jvm.ClassFile.FieldType.object "java/lang/String")), Jvm.Cond.code ({ cls := "java/lang/StringLatin1", name := "canEncode", desc := "(C)Z" } : Jvm.MethodName) jdk_43_method_3_code (1 : Nat) (Option.some Jvm.ClassFile.FieldType.boolean), Jvm.Cond.code ({ cls := "java/lang/StringLatin1", name := "toBytes", desc := "(C)[B" } : Jvm.MethodName) jdk_43_method_46_code (1 : Nat) (Option.some (Jvm.ClassFile.FieldType.array Jvm.ClassFile.FieldType.byte)), Jvm.Cond.code ({ cls := "java/lang/String", name := "<init>", desc := "([BB)V" } : Jvm.MethodName) jdk_42_method_151_code (3 : Nat) (Option.none : Option Jvm.ClassFile.FieldType), Jvm.Cond.code ({ cls := "java/lang/Object", name := "<init>", desc := "()V" } : Jvm.MethodName) object_method_1_code (1 : Nat) (Option.none : Option Jvm.ClassFile.FieldType), Jvm.Cond.code ({ cls := "com/example/hatchd/hatchd/server/RequestReader$Request", name := "<init>", desc := "(Ljava/lang/String;Ljava/lang/String;Ljava/lang/String;ZZZJZ[B)V" } : Jvm.MethodName) prog_41_method_1_code (11 : Nat) (Option.none : Option Jvm.ClassFile.FieldType), Jvm.Cond.code ({ cls := "com/example/hatchd/hatchd/server/RequestReader$Request", name := "closes", desc := "()Z" } : Jvm.MethodName) prog_41_method_5_code (1 : Nat) (Option.some Jvm.ClassFile.FieldType.boolean)]
set_option maxRecDepth 65536 in
theorem codes_eq : words1.filter isCode = codes1 := rfl
theorem w_codes : ∀ c ∈ words1.filter isCode, c.before args0 about1 = true := by
  rw [codes_eq]
  intro c hc
  simp only [codes1, List.mem_cons, List.not_mem_nil, or_false] at hc
  rcases hc with rfl | rfl | rfl | rfl | rfl | rfl | rfl | rfl
  · exact w_c0
  · exact w_c1
  · exact w_c2
  · exact w_c3
  · exact w_c4
  · exact w_c5
  · exact w_c6
  · exact w_c7
set_option maxRecDepth 65536 in
theorem w_t1 : (words1.take 24).all (fun c => isCode c || c.before args0 about1) = true := by decide +kernel
set_option maxRecDepth 65536 in
theorem w_t2 : ((words1.drop 24).take 24).all (fun c => isCode c || c.before args0 about1) = true := by decide +kernel
set_option maxRecDepth 65536 in
theorem w_t3 : ((words1.drop 24).drop 24).all (fun c => isCode c || c.before args0 about1) = true := by decide +kernel
theorem w_tables : (allAtoms (Jvm.Cond.code x code maxLocals ret :: tables_1)).before args0 about1 = true := by
  rw [allAtoms_all]
  show words1.all (fun c => c.before args0 about1) = true
  refine all_split ?_ w_codes
  rw [← List.take_append_drop 24 words1, List.all_append, w_t1, ← List.take_append_drop 24 (words1.drop 24), List.all_append, w_t2, w_t3]
  rfl
set_option maxRecDepth 65536 in
theorem w_rest : rest_1_c.before args0 about1 = true := by decide +kernel
set_option maxRecDepth 65536 in
theorem w_case : (Jvm.Cond.and given_1 narrow_1).before args0 about1 = true := by decide +kernel
theorem w_applies : (headSpec (Jvm.Cond.code x code maxLocals ret :: tables_1) room_1).applies x e0.platform about1 = true :=
  (Spec.applies_iff w_frames).mpr ⟨w_running, w_runnable, w_alone, w_named, w_hears, w_ripe, w_room, w_tables⟩
theorem atStart : AtStart classFile x code maxLocals ret World_1 tables_1 room_1 Calls_1 rest_1 Pre_1 launch0 p0 e0 about1 theMethod args0 below0 :=
  ⟨lists_1, trivial, launch0.admits_env _ _ _, launch0.least_env, fairChoices_fair.cas, fairChoices_fair.clock, w_frames, w_args, w_heap, w_applies, trivial, w_rest, w_case⟩
end start1
theorem witness_1 : WitnessClaimed_1 := ⟨start1.p0, start1.e0, start1.about1, start1.theMethod, start1.args0, start1.below0, start1.atStart⟩
end Jvm.Pilot.@@N@@
