import JvmDerived
import JvmDerived.Pilot.@@N@@Statement
import JvmDerived.Pilot.@@N@@Code
set_option linter.unusedVariables false
set_option linter.unusedSimpArgs false
@@BLOCK:NumsL.lean.txt@@
namespace Jvm.RoadKit
open Sem ClassFile Op Lib Jvm.Stand Jvm.Free Jvm.LawKit
section New
variable {p : Program} {l : Launch} {e : Env} {R : Room} {s : State} {m : MethodId} {args : Array Value} {below : List Frame} {meth : Method} {c : Code} {T : State} {locs : List Loc} {cells slots : Nat}
theorem retI (X : Stand p l e R s m args below meth c T locs cells slots) (hx : p.tables.exec = Jvm.exec) {pc : Nat} {Ls : Array Slot} {z : Int32} {rest : List Value} (hret : meth.sig.returnType = some .int) (hd : decode c.code pc = .ok (.ireturn, 1)) {fs : List Frame}
    (hl : ∀ (f : JFrame) (acts : List Action), f.method = m → f.locked = none → f.entered = [] → (doReturn e (T.setTop f) acts (some (.int z))).1 = T.setFrames fs) : Steps p.tables e below (T.setTop (mkF m pc Ls (.int z :: rest))) (T.setFrames fs) :=
  retOut X hx hret rfl (Or.inl ⟨rfl, Or.inl rfl, z, rfl⟩) hd hl
end New
end Jvm.RoadKit
namespace Jvm.Pilot.@@N@@
open Jvm Jvm.ClassFile Sem Op Lib Jvm.Free Jvm.Stand Jvm.LawKit Jvm.RoadKit Bundle Jvm.Pilot.@@N@@.Jvm.D

theorem own_sta_keep {Z : State} {h h' : Heap} {C n d : String} {v : Value} (F : Sta Z h C n d v) (K : Keep h h' []) : Sta Z h' C n d v := by
  obtain ⟨cf, i, k, f, st, cell, h1, h2, h3, h4, h5, h6, h7⟩ := F
  exact ⟨cf, i, k, f, st, cell, h1, h2, h3, h4, K.2.1 _ _ h5 nin0, h6, h7⟩
theorem own_arr_keep {Z : State} {h h' : Heap} {a : Addr} {c : Cell} {ty : FieldType} (A : Arr Z h a c ty) (K : Keep h h' []) : Arr Z h' a c ty := ⟨K.2.1 _ _ A.1 nin0, A.2⟩
def own_EL : List (String × Nat) := [("com/example/makespun/makespun/pool/SlotEqualsPinLaw", 9)]
theorem own_ew {Z : State} {a0 : Array Value} (hw : ∀ d ∈ tables_1, d.before a0 Z = true) : EW Z a0 own_EL := EW.cons (text := "a") (hw _ (List.mem_of_getElem? (i := 3) rfl)) (by decide) EW.nil
theorem own_sa0 : ∀ d ∈ Bundle.stringAtoms, d ∈ tables_1 := by decide +kernel
theorem own_sa {Z : State} {a0 : Array Value} (hw : ∀ d ∈ tables_1, d.before a0 Z = true) : ∀ d ∈ Bundle.stringAtoms, d.before a0 Z = true := fun d hd => hw d (own_sa0 d hd)
def own_QI (r : Int32) (Z : State) (h0 : Heap) (n0 : Nat) (v : Option Value) (h : Heap) (L : List Loc) : Prop := v = some (.int r) ∧ Fr n0 L ∧ h = h0
def own_QR (r : Addr) (Z : State) (h0 : Heap) (n0 : Nat) (v : Option Value) (h : Heap) (L : List Loc) : Prop := v = some (.ref r) ∧ Fr n0 L ∧ h = h0
/-- what is known of the JDK's tables at a heap -/
def own_J (Z : State) (h : Heap) (w : Int32) (ci cA : Addr) (clA : Cell) : Prop := Sta Z h "java/lang/String" "COMPACT_STRINGS" "Z" (.int w) ∧ ¬ w = (0 : Int32) ∧ Sta Z h "java/lang/CharacterDataLatin1" "instance" "Ljava/lang/CharacterDataLatin1;" (.ref ci) ∧ Exa Z h ci "java/lang/CharacterDataLatin1" ∧ Sta Z h "java/lang/CharacterDataLatin1" "A" "[I" (.ref cA) ∧ Arr Z h cA clA .int ∧ clA.slots[97]? = some (.int (8486882 : Int32))
theorem own_J.keep {Z : State} {h h' : Heap} {w : Int32} {ci cA : Addr} {clA : Cell} (J : own_J Z h w ci cA clA) (K : Keep h h' []) : own_J Z h' w ci cA clA := ⟨own_sta_keep J.1 K, J.2.1, own_sta_keep J.2.2.1 K, J.2.2.2.1.keep K, own_sta_keep J.2.2.2.2.1 K, own_arr_keep J.2.2.2.2.2.1 K, J.2.2.2.2.2.2⟩
theorem own_J.ext {Z : State} {h h' : Heap} {w : Int32} {ci cA : Addr} {clA : Cell} (J : own_J Z h w ci cA clA) (E : Ext h h') : own_J Z h' w ci cA clA := J.keep ((Keep.refl h []).ext E)
def own_S (Z : State) (h : Heap) (a b : Addr) (k : ClassId) : Prop := Exa Z h a "java/lang/String" ∧ Fld Z h a "java/lang/String" "coder" "B" (.int (0 : Int32)) ∧ Fld Z h a "java/lang/String" "value" "[B" (.ref b) ∧ Arv Z h b k .byte (1 : Int32) [(.int (97 : Int32))] (.int (0 : Int32))
theorem own_S.ext {Z : State} {h h' : Heap} {a b : Addr} {k : ClassId} (S : own_S Z h a b k) (E : Ext h h') : own_S Z h' a b k := ⟨S.1.ext E, S.2.1.ext E, S.2.2.1.ext E, S.2.2.2.ext E⟩
def own_Qg (Z : State) (a1 : Addr) := own_QI 97 Z
def own_Qz (Z : State) (a1 : Addr) := own_QI 0 Z
def own_Qo (Z : State) (a1 : Addr) := own_QI 1 Z
def own_Qp (Z : State) (a1 : Addr) := own_QI 8486882 Z
theorem d9_0 : decode jdk_43_method_44_code 0 = .ok (.aload_n 0, 1) := by decide +kernel
theorem d9_1 : decode jdk_43_method_44_code 1 = .ok (.iload_n 1, 1) := by decide +kernel
theorem d9_2 : decode jdk_43_method_44_code 2 = .ok (.baload, 1) := by decide +kernel
theorem d9_3 : decode jdk_43_method_44_code 3 = .ok (.sipush 255, 3) := by decide +kernel
theorem d9_6 : decode jdk_43_method_44_code 6 = .ok (.iand, 1) := by decide +kernel
theorem d9_7 : decode jdk_43_method_44_code 7 = .ok (.i2c, 1) := by decide +kernel
theorem d9_8 : decode jdk_43_method_44_code 8 = .ok (.ireturn, 1) := by decide +kernel
theorem pn_9 : plainName "java/lang/StringLatin1" = true := by first | (simp [plainName, overriddenIn]; done) | decide +kernel
theorem ef_9 (m : MethodId) (x0 : Addr) (x1 : Int32) : entryFrame m #[(.ref x0), (.int x1)] 2 = mkF m 0 #[.val (.ref x0), .val (.int x1)] [] := by first | (simp [entryFrame, mkF, argsToLocals, Value.category]; done) | rfl
set_option maxRecDepth 65536 in
set_option maxHeartbeats 40000000 in
theorem rmG (l : Launch) (Z : State) (a0 : Array Value) (hw : ∀ d ∈ tables_1, d.before a0 Z = true) (ws : List Jvm.Cond) (a1 : Addr) (sk : ClassId) (h0 : Heap) (n0 : Nat) (Z0 : n0 ≤ h0.size) (Vb : Arv Z h0 a1 sk .byte (1 : Int32) [(.int (97 : Int32))] (.int (0 : Int32))) :
    MetFree l (⟨"java/lang/StringLatin1", "getChar", "([BI)C"⟩ : MethodName) (head1 (Jvm.Cond.code (⟨"java/lang/StringLatin1", "getChar", "([BI)C"⟩ : MethodName) jdk_43_method_44_code 2 (some .char) :: ws) ({ frames := 0, cells := 0, slots := 0, locals := 0 } : Room)) (fun a U => a = #[(.ref a1), (.int (0 : Int32))] ∧ Z.Warmed39 U.vm ∧ U.heap = h0) (fun _ _ _ _ _ => True) (fun _ U o U' => ∃ v L, o = .returned v ∧ own_Qg Z a1 h0 n0 v U'.heap L ∧ FrameEnd U o U' L ({ frames := 0, cells := 0, slots := 0, locals := 0 } : Room).cells ({ frames := 0, cells := 0, slots := 0, locals := 0 } : Room).slots) := by
  refine MetFree.of_bodySF (plainFor_of_name pn_9) hisR ?_
  intro p e s m args below meth c s₁ Bd hml0 hP hK
  obtain ⟨rfl, hZ, hh⟩ := hP
  have hx := Bd.exec
  have hby := Bd.bytes
  have hml : c.maxLocals = 2 := hml0
  have hown : s.vm.findClass "java/lang/StringLatin1" = some m.cls := findClass_of_methodNamed Bd.named
  have hnm := (name_of_methodNamed Bd.named Bd.method).1
  have X0 : Stand p l e ({ frames := 0, cells := 0, slots := 0, locals := 0 } : Room) s m #[(.ref a1), (.int (0 : Int32))] below meth c s₁ [] 0 0 := Stand.of_body Bd
  have e0 : s₁.heap = h0 := by rw [← hh, Bd.state]; rfl
  have N0 := Fr.nil n0
  have pre0 : ∀ tq, Steps p.tables e below (s₁.setTop (mkF m 0 #[.val (.ref a1), .val (.int (0 : Int32))] [])) tq → Steps p.tables e below (s₁.setTop (entryFrame m #[(.ref a1), (.int (0 : Int32))] 2)) tq := fun tq k => castTop (ef_9 m a1 (0 : Int32)) k
  obtain ⟨clq1, Arq1, cq1, Sq1, nq1, Hq1, Gq1⟩ := id Vb
  have hiq1 : ¬ ((0 : Int32) < 0 ∨ clq1.slots.size ≤ ((0 : Int32)).toNatClampNeg) := inb_of Sq1 ⟨by decide, by decide⟩
  have haq1 : clq1.slots[((0 : Int32)).toNatClampNeg]? = some (.int (97 : Int32)) := Hq1.at hiq1 rfl
  obtain ⟨fs, hr, hrun, hended, hW, hsame⟩ := X0.leave (v := some (.int (97 : Int32))) (fun h => by rw [Bd.returns] at h; cases h)
  refine ⟨_, _, pre0 _ ?_, hrun, hended, _, _, rfl, ?_, ⟨_, rfl⟩, hW, hsame.mono (by decide) (by decide)⟩
  · show Steps p.tables e below (s₁.setTop (mkF m 0 #[.val (.ref a1), .val (.int (0 : Int32))] [])) _
    refine XS.aloadN X0.here hx rfl (hb hby d9_0) rfl rfl ?_
    show Steps p.tables e below (s₁.setTop (mkF m 1 #[.val (.ref a1), .val (.int (0 : Int32))] [(.ref a1)])) _
    refine XS.iloadN X0.here hx rfl (hb hby d9_1) rfl ?_
    show Steps p.tables e below (s₁.setTop (mkF m 2 #[.val (.ref a1), .val (.int (0 : Int32))] [(.int (0 : Int32)), (.ref a1)])) _
    refine X0.baloadBytes hx (j := (0 : Int32)) (v := (.int (97 : Int32))) (by rw [e0]; exact Arq1.1) (State.isArrayOf_alike hZ.alike Arq1.2.1) Arq1.2.2 hiq1 haq1 (g := (mkF m 2 #[.val (.ref a1), .val (.int (0 : Int32))] [(.int (0 : Int32)), (.ref a1)])) rfl rfl (hb hby d9_2) _ ?_
    show Steps p.tables e below (s₁.setTop (mkF m 3 #[.val (.ref a1), .val (.int (0 : Int32))] [(.int (97 : Int32))])) _
    refine XS.sipush X0.here hx rfl (hb hby d9_3) ?_
    show Steps p.tables e below (s₁.setTop (mkF m 6 #[.val (.ref a1), .val (.int (0 : Int32))] [(.int (255 : Int32)), (.int (97 : Int32))])) _
    refine XS.iand X0.here hx rfl (hb hby d9_6) rfl ?_
    show Steps p.tables e below (s₁.setTop (mkF m 7 #[.val (.ref a1), .val (.int (0 : Int32))] [(.int ((97 : Int32) &&& (255 : Int32)))])) _
    refine XS.i2c X0.here hx rfl (hb hby d9_7) rfl ?_
    show Steps p.tables e below (s₁.setTop (mkF m 8 #[.val (.ref a1), .val (.int (0 : Int32))] [(.int (97 : Int32))])) _
    exact retN X0 hx (t := .char) Bd.returns (by simp) (hb hby d9_8) hr
  · show own_Qg Z a1 h0 n0 _ s₁.heap _
    rw [e0]
    exact ⟨rfl, N0, rfl⟩
theorem pd_0 : parseMethodDescriptor "([BI)C" = some ⟨[(.array .byte), .int], some .char⟩ := by decide +kernel
theorem d11_0 : decode jdk_116_method_1_code 0 = .ok (.iload_n 1, 1) := by decide +kernel
theorem d11_1 : decode jdk_116_method_1_code 1 = .ok (.i2c, 1) := by decide +kernel
theorem d11_2 : decode jdk_116_method_1_code 2 = .ok (.istore_n 2, 1) := by decide +kernel
theorem d11_3 : decode jdk_116_method_1_code 3 = .ok (.getstatic 1, 3) := by decide +kernel
theorem d11_6 : decode jdk_116_method_1_code 6 = .ok (.iload_n 2, 1) := by decide +kernel
theorem d11_7 : decode jdk_116_method_1_code 7 = .ok (.iaload, 1) := by decide +kernel
theorem d11_8 : decode jdk_116_method_1_code 8 = .ok (.istore_n 3, 1) := by decide +kernel
theorem d11_9 : decode jdk_116_method_1_code 9 = .ok (.iload_n 3, 1) := by decide +kernel
theorem d11_10 : decode jdk_116_method_1_code 10 = .ok (.ireturn, 1) := by decide +kernel
theorem pn_11 : plainName "java/lang/CharacterDataLatin1" = true := by first | (simp [plainName, overriddenIn]; done) | decide +kernel
theorem ef_11 (m : MethodId) (x0 : Addr) (x1 : Int32) : entryFrame m #[(.ref x0), (.int x1)] 4 = mkF m 0 #[.val (.ref x0), .val (.int x1), .unset, .unset] [] := by first | (simp [entryFrame, mkF, argsToLocals, Value.category]; done) | rfl
set_option maxRecDepth 65536 in
set_option maxHeartbeats 40000000 in
theorem rmP (l : Launch) (Z : State) (a0 : Array Value) (hw : ∀ d ∈ tables_1, d.before a0 Z = true) (ws : List Jvm.Cond) (a1 : Addr) (w : Int32) (ci cA : Addr) (clA : Cell) (h0 : Heap) (n0 : Nat) (Z0 : n0 ≤ h0.size) (J : own_J Z h0 w ci cA clA) :
    MetFree l (⟨"java/lang/CharacterDataLatin1", "getProperties", "(I)I"⟩ : MethodName) (head1 (Jvm.Cond.code (⟨"java/lang/CharacterDataLatin1", "getProperties", "(I)I"⟩ : MethodName) jdk_116_method_1_code 4 (some .int) :: ws) ({ frames := 0, cells := 0, slots := 0, locals := 0 } : Room)) (fun a U => a = #[(.ref a1), (.int (97 : Int32))] ∧ Z.Warmed39 U.vm ∧ U.heap = h0) (fun _ _ _ _ _ => True) (fun _ U o U' => ∃ v L, o = .returned v ∧ own_Qp Z a1 h0 n0 v U'.heap L ∧ FrameEnd U o U' L ({ frames := 0, cells := 0, slots := 0, locals := 0 } : Room).cells ({ frames := 0, cells := 0, slots := 0, locals := 0 } : Room).slots) := by
  refine MetFree.of_bodySF (plainFor_of_name pn_11) hisR ?_
  intro p e s m args below meth c s₁ Bd hml0 hP hK
  obtain ⟨rfl, hZ, hh⟩ := hP
  have hx := Bd.exec
  have hby := Bd.bytes
  have hml : c.maxLocals = 4 := hml0
  have hown : s.vm.findClass "java/lang/CharacterDataLatin1" = some m.cls := findClass_of_methodNamed Bd.named
  have hnm := (name_of_methodNamed Bd.named Bd.method).1
  have X0 : Stand p l e ({ frames := 0, cells := 0, slots := 0, locals := 0 } : Room) s m #[(.ref a1), (.int (97 : Int32))] below meth c s₁ [] 0 0 := Stand.of_body Bd
  have e0 : s₁.heap = h0 := by rw [← hh, Bd.state]; rfl
  have N0 := Fr.nil n0
  have pre0 : ∀ tq, Steps p.tables e below (s₁.setTop (mkF m 0 #[.val (.ref a1), .val (.int (97 : Int32)), .unset, .unset] [])) tq → Steps p.tables e below (s₁.setTop (entryFrame m #[(.ref a1), (.int (97 : Int32))] 4)) tq := fun tq k => castTop (ef_11 m a1 (97 : Int32)) k
  obtain ⟨T1, X1, e1, st1⟩ := getS2 X0 hx hZ hown (host := "") (Or.inl (hw _ (List.mem_of_getElem? (i := 63) rfl))) Via.refl e0 J.2.2.2.2.1 (g := (mkF m 3 #[.val (.ref a1), .val (.int (97 : Int32)), .val (.int (97 : Int32)), .unset] [])) rfl (hb hby d11_3)
  have hat : clA.slots[((97 : Int32)).toNatClampNeg]? = some (.int (8486882 : Int32)) := J.2.2.2.2.2.2
  have hin : ¬ ((97 : Int32) < 0 ∨ clA.slots.size ≤ ((97 : Int32)).toNatClampNeg) := fun q => q.elim (by decide) fun r => absurd (Array.getElem?_eq_some_iff.mp hat).1 (Nat.not_lt.mpr r)
  obtain ⟨fs, hr, hrun, hended, hW, hsame⟩ := X1.leave (v := some (.int (8486882 : Int32))) (fun h => by rw [Bd.returns] at h; cases h)
  refine ⟨_, _, pre0 _ ?_, hrun, hended, _, _, rfl, ?_, ⟨_, rfl⟩, hW, hsame.mono (by decide) (by decide)⟩
  · show Steps p.tables e below (s₁.setTop (mkF m 0 #[.val (.ref a1), .val (.int (97 : Int32)), .unset, .unset] [])) _
    refine XS.iloadN X0.here hx rfl (hb hby d11_0) rfl ?_
    show Steps p.tables e below (s₁.setTop (mkF m 1 #[.val (.ref a1), .val (.int (97 : Int32)), .unset, .unset] [(.int (97 : Int32))])) _
    refine XS.i2c X0.here hx rfl (hb hby d11_1) rfl ?_
    show Steps p.tables e below (s₁.setTop (mkF m 2 #[.val (.ref a1), .val (.int (97 : Int32)), .unset, .unset] [(.int (97 : Int32))])) _
    refine XS.istoreN X0.here hx rfl (hb hby d11_2) rfl (l' := #[.val (.ref a1), .val (.int (97 : Int32)), .val (.int (97 : Int32)), .unset]) rfl ?_
    show Steps p.tables e below (s₁.setTop (mkF m 3 #[.val (.ref a1), .val (.int (97 : Int32)), .val (.int (97 : Int32)), .unset] [])) _
    refine st1 _ ?_
    show Steps p.tables e below (T1.setTop (mkF m 6 #[.val (.ref a1), .val (.int (97 : Int32)), .val (.int (97 : Int32)), .unset] [(.ref cA)])) _
    refine XS.iloadN X1.here hx rfl (hb hby d11_6) rfl ?_
    show Steps p.tables e below (T1.setTop (mkF m 7 #[.val (.ref a1), .val (.int (97 : Int32)), .val (.int (97 : Int32)), .unset] [(.int (97 : Int32)), (.ref cA)])) _
    refine X1.iaload hx (j := (97 : Int32)) (v := (.int (8486882 : Int32))) (by rw [e1]; exact J.2.2.2.2.2.1.1) (State.isArrayOf_alike hZ.alike J.2.2.2.2.2.1.2.1) J.2.2.2.2.2.1.2.2 hin hat (g := (mkF m 7 #[.val (.ref a1), .val (.int (97 : Int32)), .val (.int (97 : Int32)), .unset] [(.int (97 : Int32)), (.ref cA)])) rfl rfl (hb hby d11_7) _ ?_
    show Steps p.tables e below (T1.setTop (mkF m 8 #[.val (.ref a1), .val (.int (97 : Int32)), .val (.int (97 : Int32)), .unset] [(.int (8486882 : Int32))])) _
    refine XS.istoreN X1.here hx rfl (hb hby d11_8) rfl (l' := #[.val (.ref a1), .val (.int (97 : Int32)), .val (.int (97 : Int32)), .val (.int (8486882 : Int32))]) rfl ?_
    show Steps p.tables e below (T1.setTop (mkF m 9 #[.val (.ref a1), .val (.int (97 : Int32)), .val (.int (97 : Int32)), .val (.int (8486882 : Int32))] [])) _
    refine XS.iloadN X1.here hx rfl (hb hby d11_9) rfl ?_
    show Steps p.tables e below (T1.setTop (mkF m 10 #[.val (.ref a1), .val (.int (97 : Int32)), .val (.int (97 : Int32)), .val (.int (8486882 : Int32))] [(.int (8486882 : Int32))])) _
    exact retI X1 hx Bd.returns (hb hby d11_10) hr
  · show own_Qp Z a1 h0 n0 _ T1.heap _
    rw [e1]
    exact ⟨rfl, N0, rfl⟩
theorem pd_1 : parseMethodDescriptor "(I)I" = some ⟨[.int], some .int⟩ := by decide +kernel
theorem d10_0 : decode jdk_116_method_26_code 0 = .ok (.aload_n 0, 1) := by decide +kernel
theorem d10_1 : decode jdk_116_method_26_code 1 = .ok (.iload_n 1, 1) := by decide +kernel
theorem d10_2 : decode jdk_116_method_26_code 2 = .ok (.invokevirtual 15, 3) := by decide +kernel
theorem d10_5 : decode jdk_116_method_26_code 5 = .ok (.istore_n 2, 1) := by decide +kernel
theorem d10_6 : decode jdk_116_method_26_code 6 = .ok (.iload_n 2, 1) := by decide +kernel
theorem d10_7 : decode jdk_116_method_26_code 7 = .ok (.sipush 28672, 3) := by decide +kernel
theorem d10_10 : decode jdk_116_method_26_code 10 = .ok (.iand, 1) := by decide +kernel
theorem d10_11 : decode jdk_116_method_26_code 11 = .ok (.sipush 16384, 3) := by decide +kernel
theorem d10_14 : decode jdk_116_method_26_code 14 = .ok (.if_icmp .ne 7, 3) := by decide +kernel
theorem d10_17 : decode jdk_116_method_26_code 17 = .ok (.iconst 1, 1) := by decide +kernel
theorem d10_18 : decode jdk_116_method_26_code 18 = .ok (.goto 4, 3) := by decide +kernel
theorem d10_21 : decode jdk_116_method_26_code 21 = .ok (.iconst 0, 1) := by decide +kernel
theorem d10_22 : decode jdk_116_method_26_code 22 = .ok (.ireturn, 1) := by decide +kernel
theorem pn_10 : plainName "java/lang/CharacterDataLatin1" = true := by first | (simp [plainName, overriddenIn]; done) | decide +kernel
theorem ef_10 (m : MethodId) (x0 : Addr) (x1 : Int32) : entryFrame m #[(.ref x0), (.int x1)] 3 = mkF m 0 #[.val (.ref x0), .val (.int x1), .unset] [] := by first | (simp [entryFrame, mkF, argsToLocals, Value.category]; done) | rfl
set_option maxRecDepth 65536 in
set_option maxHeartbeats 40000000 in
theorem rmW (l : Launch) (Z : State) (a0 : Array Value) (hw : ∀ d ∈ tables_1, d.before a0 Z = true) (ws : List Jvm.Cond) (a1 : Addr) (w : Int32) (ci cA : Addr) (clA : Cell) (h0 : Heap) (n0 : Nat) (Z0 : n0 ≤ h0.size) (E1 : Exa Z h0 a1 "java/lang/CharacterDataLatin1") (J : own_J Z h0 w ci cA clA) :
    MetFree l (⟨"java/lang/CharacterDataLatin1", "isWhitespace", "(I)Z"⟩ : MethodName) (head1 (Jvm.Cond.code (⟨"java/lang/CharacterDataLatin1", "isWhitespace", "(I)Z"⟩ : MethodName) jdk_116_method_26_code 3 (some .boolean) :: ws) ({ frames := 1, cells := 0, slots := 0, locals := 15 } : Room)) (fun a U => a = #[(.ref a1), (.int (97 : Int32))] ∧ Z.Warmed39 U.vm ∧ U.heap = h0) (fun _ _ _ _ _ => True) (fun _ U o U' => ∃ v L, o = .returned v ∧ own_Qz Z a1 h0 n0 v U'.heap L ∧ FrameEnd U o U' L ({ frames := 1, cells := 0, slots := 0, locals := 15 } : Room).cells ({ frames := 1, cells := 0, slots := 0, locals := 15 } : Room).slots) := by
  refine MetFree.of_bodySF (plainFor_of_name pn_10) hisR ?_
  intro p e s m args below meth c s₁ Bd hml0 hP hK
  obtain ⟨rfl, hZ, hh⟩ := hP
  have hx := Bd.exec
  have hby := Bd.bytes
  have hml : c.maxLocals = 3 := hml0
  have hown : s.vm.findClass "java/lang/CharacterDataLatin1" = some m.cls := findClass_of_methodNamed Bd.named
  have hnm := (name_of_methodNamed Bd.named Bd.method).1
  have X0 : Stand p l e ({ frames := 1, cells := 0, slots := 0, locals := 15 } : Room) s m #[(.ref a1), (.int (97 : Int32))] below meth c s₁ [] 0 0 := Stand.of_body Bd
  have e0 : s₁.heap = h0 := by rw [← hh, Bd.state]; rfl
  have N0 := Fr.nil n0
  have pre0 : ∀ tq, Steps p.tables e below (s₁.setTop (mkF m 0 #[.val (.ref a1), .val (.int (97 : Int32)), .unset] [])) tq → Steps p.tables e below (s₁.setTop (entryFrame m #[(.ref a1), (.int (97 : Int32))] 3)) tq := fun tq k => castTop (ef_10 m a1 (97 : Int32)) k
  obtain ⟨cq1, kq1, q1a, q1b, q1c⟩ := isOf hZ e0 E1
  obtain ⟨_, _, ⟨T1, L1, k1, n1⟩, -, X1, ⟨Lc1, hQ1, l1, y1, z1⟩, st1⟩ := X0.virtualBack hx (y := (⟨"java/lang/CharacterDataLatin1", "getProperties", "(I)I"⟩ : MethodName)) (z := (⟨"java/lang/CharacterDataLatin1", "getProperties", "(I)I"⟩ : MethodName)) hown (mvT hZ (hw _ (List.mem_of_getElem? (i := 58) rfl))) (mvT hZ (hw _ (List.mem_of_getElem? (i := 59) rfl))) (notFace_of_selects (args := #[]) (mvT hZ (hw _ (List.mem_of_getElem? (i := 61) rfl)))) (mvT hZ (hw _ (List.mem_of_getElem? (i := 61) rfl))) (mvT hZ (hw _ (List.mem_of_getElem? (i := 60) rfl))) (by decide) (backOf (W := 0) (rmP l Z a0 hw [] a1 w ci cA clA h0 n0 Z0 J) hZ (hw _ (List.mem_of_getElem? (i := 62) rfl)) (hw _ (List.mem_of_getElem? (i := 52) rfl)) (by decide) (by decide)) q1a q1c (g := (mkF m 2 #[.val (.ref a1), .val (.int (97 : Int32)), .unset] [(.int (97 : Int32)), (.ref a1)])) rfl (by rw [hml]; rfl) (Steps.refl _) (argsL := [(.int (97 : Int32))]) (rest := []) (lenOf pd_1 rfl) rfl (by show 2 * 0 + _ ≤ _; exact Nat.le_of_eq rfl) (hb hby d10_2) (fun _ _ => ⟨rfl, e0, (by decide : 0 + 0 ≤ _), (by decide : 0 + 0 ≤ _)⟩)
  dsimp only [Pt.U, Pt.locs, Pt.cells, Pt.slots] at X1 l1 y1 z1 st1 hQ1
  subst l1 y1 z1
  obtain ⟨rfl, N1q, e1⟩ := hQ1
  have N1 := Fr.app N0 N1q
  obtain ⟨fs, hr, hrun, hended, hW, hsame⟩ := X1.leave (v := some (.int (0 : Int32))) (fun h => by rw [Bd.returns] at h; cases h)
  refine ⟨_, _, pre0 _ ?_, hrun, hended, _, _, rfl, ?_, ⟨_, rfl⟩, hW, hsame.mono (by decide) (by decide)⟩
  · show Steps p.tables e below (s₁.setTop (mkF m 0 #[.val (.ref a1), .val (.int (97 : Int32)), .unset] [])) _
    refine XS.aloadN X0.here hx rfl (hb hby d10_0) rfl rfl ?_
    show Steps p.tables e below (s₁.setTop (mkF m 1 #[.val (.ref a1), .val (.int (97 : Int32)), .unset] [(.ref a1)])) _
    refine XS.iloadN X0.here hx rfl (hb hby d10_1) rfl ?_
    show Steps p.tables e below (s₁.setTop (mkF m 2 #[.val (.ref a1), .val (.int (97 : Int32)), .unset] [(.int (97 : Int32)), (.ref a1)])) _
    refine st1.trans ?_
    show Steps p.tables e below (T1.setTop (mkF m 5 #[.val (.ref a1), .val (.int (97 : Int32)), .unset] [(.int (8486882 : Int32))])) _
    refine XS.istoreN X1.here hx rfl (hb hby d10_5) rfl (l' := #[.val (.ref a1), .val (.int (97 : Int32)), .val (.int (8486882 : Int32))]) rfl ?_
    show Steps p.tables e below (T1.setTop (mkF m 6 #[.val (.ref a1), .val (.int (97 : Int32)), .val (.int (8486882 : Int32))] [])) _
    refine XS.iloadN X1.here hx rfl (hb hby d10_6) rfl ?_
    show Steps p.tables e below (T1.setTop (mkF m 7 #[.val (.ref a1), .val (.int (97 : Int32)), .val (.int (8486882 : Int32))] [(.int (8486882 : Int32))])) _
    refine XS.sipush X1.here hx rfl (hb hby d10_7) ?_
    show Steps p.tables e below (T1.setTop (mkF m 10 #[.val (.ref a1), .val (.int (97 : Int32)), .val (.int (8486882 : Int32))] [(.int (28672 : Int32)), (.int (8486882 : Int32))])) _
    refine XS.iand X1.here hx rfl (hb hby d10_10) rfl ?_
    show Steps p.tables e below (T1.setTop (mkF m 11 #[.val (.ref a1), .val (.int (97 : Int32)), .val (.int (8486882 : Int32))] [(.int (28672 : Int32))])) _
    refine XS.sipush X1.here hx rfl (hb hby d10_11) ?_
    show Steps p.tables e below (T1.setTop (mkF m 14 #[.val (.ref a1), .val (.int (97 : Int32)), .val (.int (8486882 : Int32))] [(.int (16384 : Int32)), (.int (28672 : Int32))])) _
    refine XS.icmpYes X1.here hx rfl (pc0 := 14) (pc' := 21) rfl (hb hby d10_14) rfl (feq (by decide : ¬ ((28672 : Int32) = (16384 : Int32)))).2 (by decide) (by decide) ?_
    show Steps p.tables e below (T1.setTop (mkF m 21 #[.val (.ref a1), .val (.int (97 : Int32)), .val (.int (8486882 : Int32))] [])) _
    refine XS.iconst X1.here hx rfl (hb hby d10_21) ?_
    show Steps p.tables e below (T1.setTop (mkF m 22 #[.val (.ref a1), .val (.int (97 : Int32)), .val (.int (8486882 : Int32))] [(.int (0 : Int32))])) _
    exact retN X1 hx (t := .boolean) Bd.returns (by simp) (hb hby d10_22) hr
  · show own_Qz Z a1 h0 n0 _ T1.heap _
    rw [e1]
    exact ⟨rfl, N1, rfl⟩
theorem pd_2 : parseMethodDescriptor "(I)Z" = some ⟨[.int], some .boolean⟩ := by decide +kernel
theorem d8_0 : decode jdk_43_method_37_code 0 = .ok (.aload_n 0, 1) := by decide +kernel
theorem d8_1 : decode jdk_43_method_37_code 1 = .ok (.arraylength, 1) := by decide +kernel
theorem d8_2 : decode jdk_43_method_37_code 2 = .ok (.istore_n 1, 1) := by decide +kernel
theorem d8_3 : decode jdk_43_method_37_code 3 = .ok (.iconst 0, 1) := by decide +kernel
theorem d8_4 : decode jdk_43_method_37_code 4 = .ok (.istore_n 2, 1) := by decide +kernel
theorem d8_5 : decode jdk_43_method_37_code 5 = .ok (.iload_n 2, 1) := by decide +kernel
theorem d8_6 : decode jdk_43_method_37_code 6 = .ok (.iload_n 1, 1) := by decide +kernel
theorem d8_7 : decode jdk_43_method_37_code 7 = .ok (.if_icmp .ge 40, 3) := by decide +kernel
theorem d8_10 : decode jdk_43_method_37_code 10 = .ok (.aload_n 0, 1) := by decide +kernel
theorem d8_11 : decode jdk_43_method_37_code 11 = .ok (.iload_n 2, 1) := by decide +kernel
theorem d8_12 : decode jdk_43_method_37_code 12 = .ok (.invokestatic 50, 3) := by decide +kernel
theorem d8_15 : decode jdk_43_method_37_code 15 = .ok (.istore_n 3, 1) := by decide +kernel
theorem d8_16 : decode jdk_43_method_37_code 16 = .ok (.iload_n 3, 1) := by decide +kernel
theorem d8_17 : decode jdk_43_method_37_code 17 = .ok (.bipush 32, 2) := by decide +kernel
theorem d8_19 : decode jdk_43_method_37_code 19 = .ok (.if_icmp .eq 22, 3) := by decide +kernel
theorem d8_22 : decode jdk_43_method_37_code 22 = .ok (.iload_n 3, 1) := by decide +kernel
theorem d8_23 : decode jdk_43_method_37_code 23 = .ok (.bipush 9, 2) := by decide +kernel
theorem d8_25 : decode jdk_43_method_37_code 25 = .ok (.if_icmp .eq 16, 3) := by decide +kernel
theorem d8_28 : decode jdk_43_method_37_code 28 = .ok (.getstatic 66, 3) := by decide +kernel
theorem d8_31 : decode jdk_43_method_37_code 31 = .ok (.iload_n 3, 1) := by decide +kernel
theorem d8_32 : decode jdk_43_method_37_code 32 = .ok (.invokevirtual 211, 3) := by decide +kernel
theorem d8_35 : decode jdk_43_method_37_code 35 = .ok (.ifCond .ne 6, 3) := by decide +kernel
theorem d8_38 : decode jdk_43_method_37_code 38 = .ok (.goto 9, 3) := by decide +kernel
theorem d8_41 : decode jdk_43_method_37_code 41 = .ok (.iinc 2 1, 3) := by decide +kernel
theorem d8_44 : decode jdk_43_method_37_code 44 = .ok (.goto (-39), 3) := by decide +kernel
theorem d8_47 : decode jdk_43_method_37_code 47 = .ok (.iload_n 2, 1) := by decide +kernel
theorem d8_48 : decode jdk_43_method_37_code 48 = .ok (.ireturn, 1) := by decide +kernel
theorem pn_8 : plainName "java/lang/StringLatin1" = true := by first | (simp [plainName, overriddenIn]; done) | decide +kernel
theorem ef_8 (m : MethodId) (x0 : Addr) : entryFrame m #[(.ref x0)] 4 = mkF m 0 #[.val (.ref x0), .unset, .unset, .unset] [] := by first | (simp [entryFrame, mkF, argsToLocals, Value.category]; done) | rfl
set_option maxRecDepth 65536 in
set_option maxHeartbeats 40000000 in
theorem rmN (l : Launch) (Z : State) (a0 : Array Value) (hw : ∀ d ∈ tables_1, d.before a0 Z = true) (ws : List Jvm.Cond) (a1 : Addr) (sk : ClassId) (w : Int32) (ci cA : Addr) (clA : Cell) (h0 : Heap) (n0 : Nat) (Z0 : n0 ≤ h0.size) (Vb : Arv Z h0 a1 sk .byte (1 : Int32) [(.int (97 : Int32))] (.int (0 : Int32))) (J : own_J Z h0 w ci cA clA) :
    MetFree l (⟨"java/lang/StringLatin1", "indexOfNonWhitespace", "([B)I"⟩ : MethodName) (head1 (Jvm.Cond.code (⟨"java/lang/StringLatin1", "indexOfNonWhitespace", "([B)I"⟩ : MethodName) jdk_43_method_37_code 4 (some .int) :: ws) ({ frames := 2, cells := 0, slots := 0, locals := 29 } : Room)) (fun a U => a = #[(.ref a1)] ∧ Z.Warmed39 U.vm ∧ U.heap = h0) (fun _ _ _ _ _ => True) (fun _ U o U' => ∃ v L, o = .returned v ∧ own_Qz Z a1 h0 n0 v U'.heap L ∧ FrameEnd U o U' L ({ frames := 2, cells := 0, slots := 0, locals := 29 } : Room).cells ({ frames := 2, cells := 0, slots := 0, locals := 29 } : Room).slots) := by
  refine MetFree.of_bodySF (plainFor_of_name pn_8) hisR ?_
  intro p e s m args below meth c s₁ Bd hml0 hP hK
  obtain ⟨rfl, hZ, hh⟩ := hP
  have hx := Bd.exec
  have hby := Bd.bytes
  have hml : c.maxLocals = 4 := hml0
  have hown : s.vm.findClass "java/lang/StringLatin1" = some m.cls := findClass_of_methodNamed Bd.named
  have hnm := (name_of_methodNamed Bd.named Bd.method).1
  have X0 : Stand p l e ({ frames := 2, cells := 0, slots := 0, locals := 29 } : Room) s m #[(.ref a1)] below meth c s₁ [] 0 0 := Stand.of_body Bd
  have e0 : s₁.heap = h0 := by rw [← hh, Bd.state]; rfl
  have N0 := Fr.nil n0
  have pre0 : ∀ tq, Steps p.tables e below (s₁.setTop (mkF m 0 #[.val (.ref a1), .unset, .unset, .unset] [])) tq → Steps p.tables e below (s₁.setTop (entryFrame m #[(.ref a1)] 4)) tq := fun tq k => castTop (ef_8 m a1) k
  obtain ⟨clq1, Arq1, cq1, Sq1, nq1, Hq1, Gq1⟩ := id Vb
  obtain ⟨_, _, ⟨T2, L2, k2, n2⟩, -, X2, ⟨Lc2, hQ2, l2, y2, z2⟩, st2⟩ := Jvm.LawKit.callS X0 hx (y := (⟨"java/lang/StringLatin1", "getChar", "([BI)C"⟩ : MethodName)) hown (mvT hZ (hw _ (List.mem_of_getElem? (i := 48) rfl))) (mvT hZ (hw _ (List.mem_of_getElem? (i := 49) rfl))) (mvT hZ (hw _ (List.mem_of_getElem? (i := 46) rfl))) (mvT hZ (hw _ (List.mem_of_getElem? (i := 50) rfl))) (by decide) (backOf (W := 0) (rmG l Z a0 hw [] a1 sk h0 n0 Z0 Vb) hZ (hw _ (List.mem_of_getElem? (i := 50) rfl)) (hw _ (List.mem_of_getElem? (i := 46) rfl)) (by decide) (by decide)) (g := (mkF m 12 #[.val (.ref a1), .val (.int (1 : Int32)), .val (.int (0 : Int32)), .unset] [(.int (0 : Int32)), (.ref a1)])) rfl (by rw [hml]; rfl) (argsL := [(.ref a1), (.int (0 : Int32))]) (rest := []) (lenOf pd_0 rfl) rfl (by show 2 * 0 + _ ≤ _; exact Nat.le_of_eq rfl) (hb hby d8_12) (fun _ _ => ⟨rfl, e0, (by decide : 0 + 0 ≤ _), (by decide : 0 + 0 ≤ _)⟩)
  dsimp only [Pt.U, Pt.locs, Pt.cells, Pt.slots] at X2 l2 y2 z2 st2 hQ2
  subst l2 y2 z2
  obtain ⟨rfl, N2q, e2⟩ := hQ2
  have N2 := Fr.app N0 N2q
  obtain ⟨T3, X3, e3, st3⟩ := getS2 X2 hx hZ hown (host := "") (Or.inl (hw _ (List.mem_of_getElem? (i := 51) rfl))) Via.refl e2 J.2.2.1 (g := (mkF m 28 #[.val (.ref a1), .val (.int (1 : Int32)), .val (.int (0 : Int32)), .val (.int (97 : Int32))] [])) rfl (hb hby d8_28)
  obtain ⟨cq4, kq4, q4a, q4b, q4c⟩ := isOf hZ e3 J.2.2.2.1
  obtain ⟨_, _, ⟨T4, L4, k4, n4⟩, -, X4, ⟨Lc4, hQ4, l4, y4, z4⟩, st4⟩ := X3.virtualBack hx (y := (⟨"java/lang/CharacterDataLatin1", "isWhitespace", "(I)Z"⟩ : MethodName)) (z := (⟨"java/lang/CharacterDataLatin1", "isWhitespace", "(I)Z"⟩ : MethodName)) hown (mvT hZ (hw _ (List.mem_of_getElem? (i := 53) rfl))) (mvT hZ (hw _ (List.mem_of_getElem? (i := 54) rfl))) (notFace_of_selects (args := #[]) (mvT hZ (hw _ (List.mem_of_getElem? (i := 56) rfl)))) (mvT hZ (hw _ (List.mem_of_getElem? (i := 56) rfl))) (mvT hZ (hw _ (List.mem_of_getElem? (i := 55) rfl))) (by decide) (backOf (W := 0) (rmW l Z a0 hw [] ci w ci cA clA h0 n0 Z0 J.2.2.2.1 J) hZ (hw _ (List.mem_of_getElem? (i := 57) rfl)) (hw _ (List.mem_of_getElem? (i := 52) rfl)) (by decide) (by decide)) q4a q4c (g := (mkF m 32 #[.val (.ref a1), .val (.int (1 : Int32)), .val (.int (0 : Int32)), .val (.int (97 : Int32))] [(.int (97 : Int32)), (.ref ci)])) rfl (by rw [hml]; rfl) (Steps.refl _) (argsL := [(.int (97 : Int32))]) (rest := []) (lenOf pd_2 rfl) rfl (by show 2 * 0 + _ ≤ _; exact Nat.le_of_eq rfl) (hb hby d8_32) (fun _ _ => ⟨rfl, e3, (by decide : 0 + 0 ≤ _), (by decide : 0 + 0 ≤ _)⟩)
  dsimp only [Pt.U, Pt.locs, Pt.cells, Pt.slots] at X4 l4 y4 z4 st4 hQ4
  subst l4 y4 z4
  obtain ⟨rfl, N4q, e4⟩ := hQ4
  have N4 := Fr.app N2 N4q
  obtain ⟨fs, hr, hrun, hended, hW, hsame⟩ := X4.leave (v := some (.int (0 : Int32))) (fun h => by rw [Bd.returns] at h; cases h)
  refine ⟨_, _, pre0 _ ?_, hrun, hended, _, _, rfl, ?_, ⟨_, rfl⟩, hW, hsame.mono (by decide) (by decide)⟩
  · show Steps p.tables e below (s₁.setTop (mkF m 0 #[.val (.ref a1), .unset, .unset, .unset] [])) _
    refine XS.aloadN X0.here hx rfl (hb hby d8_0) rfl rfl ?_
    show Steps p.tables e below (s₁.setTop (mkF m 1 #[.val (.ref a1), .unset, .unset, .unset] [(.ref a1)])) _
    refine X0.arraylength hx (by rw [e0]; exact Arq1.1) (State.isArrayOf_alike hZ.alike Arq1.2.1) (g := (mkF m 1 #[.val (.ref a1), .unset, .unset, .unset] [(.ref a1)])) rfl rfl (hb hby d8_1) _ ?_
    rw [len_of Sq1 nq1]
    show Steps p.tables e below (s₁.setTop (mkF m 2 #[.val (.ref a1), .unset, .unset, .unset] [(.int (1 : Int32))])) _
    refine XS.istoreN X0.here hx rfl (hb hby d8_2) rfl (l' := #[.val (.ref a1), .val (.int (1 : Int32)), .unset, .unset]) rfl ?_
    show Steps p.tables e below (s₁.setTop (mkF m 3 #[.val (.ref a1), .val (.int (1 : Int32)), .unset, .unset] [])) _
    refine XS.iconst X0.here hx rfl (hb hby d8_3) ?_
    show Steps p.tables e below (s₁.setTop (mkF m 4 #[.val (.ref a1), .val (.int (1 : Int32)), .unset, .unset] [(.int (0 : Int32))])) _
    refine XS.istoreN X0.here hx rfl (hb hby d8_4) rfl (l' := #[.val (.ref a1), .val (.int (1 : Int32)), .val (.int (0 : Int32)), .unset]) rfl ?_
    show Steps p.tables e below (s₁.setTop (mkF m 5 #[.val (.ref a1), .val (.int (1 : Int32)), .val (.int (0 : Int32)), .unset] [])) _
    refine XS.iloadN X0.here hx rfl (hb hby d8_5) rfl ?_
    show Steps p.tables e below (s₁.setTop (mkF m 6 #[.val (.ref a1), .val (.int (1 : Int32)), .val (.int (0 : Int32)), .unset] [(.int (0 : Int32))])) _
    refine XS.iloadN X0.here hx rfl (hb hby d8_6) rfl ?_
    show Steps p.tables e below (s₁.setTop (mkF m 7 #[.val (.ref a1), .val (.int (1 : Int32)), .val (.int (0 : Int32)), .unset] [(.int (1 : Int32)), (.int (0 : Int32))])) _
    refine XS.icmpNo X0.here hx rfl (hb hby d8_7) rfl (tlt (by decide : ((0 : Int32) < (1 : Int32)))).2.1 ?_
    show Steps p.tables e below (s₁.setTop (mkF m 10 #[.val (.ref a1), .val (.int (1 : Int32)), .val (.int (0 : Int32)), .unset] [])) _
    refine XS.aloadN X0.here hx rfl (hb hby d8_10) rfl rfl ?_
    show Steps p.tables e below (s₁.setTop (mkF m 11 #[.val (.ref a1), .val (.int (1 : Int32)), .val (.int (0 : Int32)), .unset] [(.ref a1)])) _
    refine XS.iloadN X0.here hx rfl (hb hby d8_11) rfl ?_
    show Steps p.tables e below (s₁.setTop (mkF m 12 #[.val (.ref a1), .val (.int (1 : Int32)), .val (.int (0 : Int32)), .unset] [(.int (0 : Int32)), (.ref a1)])) _
    refine st2 _ ?_
    show Steps p.tables e below (T2.setTop (mkF m 15 #[.val (.ref a1), .val (.int (1 : Int32)), .val (.int (0 : Int32)), .unset] [(.int (97 : Int32))])) _
    refine XS.istoreN X2.here hx rfl (hb hby d8_15) rfl (l' := #[.val (.ref a1), .val (.int (1 : Int32)), .val (.int (0 : Int32)), .val (.int (97 : Int32))]) rfl ?_
    show Steps p.tables e below (T2.setTop (mkF m 16 #[.val (.ref a1), .val (.int (1 : Int32)), .val (.int (0 : Int32)), .val (.int (97 : Int32))] [])) _
    refine XS.iloadN X2.here hx rfl (hb hby d8_16) rfl ?_
    show Steps p.tables e below (T2.setTop (mkF m 17 #[.val (.ref a1), .val (.int (1 : Int32)), .val (.int (0 : Int32)), .val (.int (97 : Int32))] [(.int (97 : Int32))])) _
    refine XS.bipush X2.here hx rfl (hb hby d8_17) ?_
    show Steps p.tables e below (T2.setTop (mkF m 19 #[.val (.ref a1), .val (.int (1 : Int32)), .val (.int (0 : Int32)), .val (.int (97 : Int32))] [(.int (32 : Int32)), (.int (97 : Int32))])) _
    refine XS.icmpNo X2.here hx rfl (hb hby d8_19) rfl (feq (by decide : ¬ ((97 : Int32) = (32 : Int32)))).1 ?_
    show Steps p.tables e below (T2.setTop (mkF m 22 #[.val (.ref a1), .val (.int (1 : Int32)), .val (.int (0 : Int32)), .val (.int (97 : Int32))] [])) _
    refine XS.iloadN X2.here hx rfl (hb hby d8_22) rfl ?_
    show Steps p.tables e below (T2.setTop (mkF m 23 #[.val (.ref a1), .val (.int (1 : Int32)), .val (.int (0 : Int32)), .val (.int (97 : Int32))] [(.int (97 : Int32))])) _
    refine XS.bipush X2.here hx rfl (hb hby d8_23) ?_
    show Steps p.tables e below (T2.setTop (mkF m 25 #[.val (.ref a1), .val (.int (1 : Int32)), .val (.int (0 : Int32)), .val (.int (97 : Int32))] [(.int (9 : Int32)), (.int (97 : Int32))])) _
    refine XS.icmpNo X2.here hx rfl (hb hby d8_25) rfl (feq (by decide : ¬ ((97 : Int32) = (9 : Int32)))).1 ?_
    show Steps p.tables e below (T2.setTop (mkF m 28 #[.val (.ref a1), .val (.int (1 : Int32)), .val (.int (0 : Int32)), .val (.int (97 : Int32))] [])) _
    refine st3 _ ?_
    show Steps p.tables e below (T3.setTop (mkF m 31 #[.val (.ref a1), .val (.int (1 : Int32)), .val (.int (0 : Int32)), .val (.int (97 : Int32))] [(.ref ci)])) _
    refine XS.iloadN X3.here hx rfl (hb hby d8_31) rfl ?_
    show Steps p.tables e below (T3.setTop (mkF m 32 #[.val (.ref a1), .val (.int (1 : Int32)), .val (.int (0 : Int32)), .val (.int (97 : Int32))] [(.int (97 : Int32)), (.ref ci)])) _
    refine st4.trans ?_
    show Steps p.tables e below (T4.setTop (mkF m 35 #[.val (.ref a1), .val (.int (1 : Int32)), .val (.int (0 : Int32)), .val (.int (97 : Int32))] [(.int (0 : Int32))])) _
    refine XS.ifNo X4.here hx rfl (hb hby d8_35) rfl ((if0 _ _).trans (teq (by decide : ((0 : Int32) = (0 : Int32)))).2) ?_
    show Steps p.tables e below (T4.setTop (mkF m 38 #[.val (.ref a1), .val (.int (1 : Int32)), .val (.int (0 : Int32)), .val (.int (97 : Int32))] [])) _
    refine XS.goto X4.here hx rfl (pc0 := 38) (pc' := 47) rfl (hb hby d8_38) (by decide) (by decide) ?_
    show Steps p.tables e below (T4.setTop (mkF m 47 #[.val (.ref a1), .val (.int (1 : Int32)), .val (.int (0 : Int32)), .val (.int (97 : Int32))] [])) _
    refine XS.iloadN X4.here hx rfl (hb hby d8_47) rfl ?_
    show Steps p.tables e below (T4.setTop (mkF m 48 #[.val (.ref a1), .val (.int (1 : Int32)), .val (.int (0 : Int32)), .val (.int (97 : Int32))] [(.int (0 : Int32))])) _
    exact retI X4 hx Bd.returns (hb hby d8_48) hr
  · show own_Qz Z a1 h0 n0 _ T4.heap _
    rw [e4]
    exact ⟨rfl, N4, rfl⟩
theorem pd_3 : parseMethodDescriptor "([B)I" = some ⟨[(.array .byte)], some .int⟩ := by decide +kernel
theorem d7_0 : decode jdk_42_method_154_code 0 = .ok (.getstatic 38, 3) := by decide +kernel
theorem d7_3 : decode jdk_42_method_154_code 3 = .ok (.ifCond .eq 14, 3) := by decide +kernel
theorem d7_6 : decode jdk_42_method_154_code 6 = .ok (.aload_n 0, 1) := by decide +kernel
theorem d7_7 : decode jdk_42_method_154_code 7 = .ok (.getfield 15, 3) := by decide +kernel
theorem d7_10 : decode jdk_42_method_154_code 10 = .ok (.ifCond .ne 7, 3) := by decide +kernel
theorem d7_13 : decode jdk_42_method_154_code 13 = .ok (.iconst 1, 1) := by decide +kernel
theorem d7_14 : decode jdk_42_method_154_code 14 = .ok (.goto 4, 3) := by decide +kernel
theorem d7_17 : decode jdk_42_method_154_code 17 = .ok (.iconst 0, 1) := by decide +kernel
theorem d7_18 : decode jdk_42_method_154_code 18 = .ok (.ireturn, 1) := by decide +kernel
theorem pn_7 : plainName "java/lang/String" = true := by first | (simp [plainName, overriddenIn]; done) | decide +kernel
theorem ef_7 (m : MethodId) (x0 : Addr) : entryFrame m #[(.ref x0)] 1 = mkF m 0 #[.val (.ref x0)] [] := by first | (simp [entryFrame, mkF, argsToLocals, Value.category]; done) | rfl
set_option maxRecDepth 65536 in
set_option maxHeartbeats 40000000 in
theorem rmI1 (l : Launch) (Z : State) (a0 : Array Value) (hw : ∀ d ∈ tables_1, d.before a0 Z = true) (ws : List Jvm.Cond) (a1 : Addr) (sb : Addr) (sk : ClassId) (w : Int32) (ci cA : Addr) (clA : Cell) (h0 : Heap) (n0 : Nat) (Z0 : n0 ≤ h0.size) (St : own_S Z h0 a1 sb sk) (J : own_J Z h0 w ci cA clA) :
    MetFree l (⟨"java/lang/String", "isLatin1", "()Z"⟩ : MethodName) (head1 (Jvm.Cond.code (⟨"java/lang/String", "isLatin1", "()Z"⟩ : MethodName) jdk_42_method_154_code 1 (some .boolean) :: ws) ({ frames := 0, cells := 0, slots := 0, locals := 0 } : Room)) (fun a U => a = #[(.ref a1)] ∧ Z.Warmed39 U.vm ∧ U.heap = h0) (fun _ _ _ _ _ => True) (fun _ U o U' => ∃ v L, o = .returned v ∧ own_Qo Z a1 h0 n0 v U'.heap L ∧ FrameEnd U o U' L ({ frames := 0, cells := 0, slots := 0, locals := 0 } : Room).cells ({ frames := 0, cells := 0, slots := 0, locals := 0 } : Room).slots) := by
  refine MetFree.of_bodySF (plainFor_of_name pn_7) hisR ?_
  intro p e s m args below meth c s₁ Bd hml0 hP hK
  obtain ⟨rfl, hZ, hh⟩ := hP
  have hx := Bd.exec
  have hby := Bd.bytes
  have hml : c.maxLocals = 1 := hml0
  have hown : s.vm.findClass "java/lang/String" = some m.cls := findClass_of_methodNamed Bd.named
  have hnm := (name_of_methodNamed Bd.named Bd.method).1
  have X0 : Stand p l e ({ frames := 0, cells := 0, slots := 0, locals := 0 } : Room) s m #[(.ref a1)] below meth c s₁ [] 0 0 := Stand.of_body Bd
  have e0 : s₁.heap = h0 := by rw [← hh, Bd.state]; rfl
  have N0 := Fr.nil n0
  have pre0 : ∀ tq, Steps p.tables e below (s₁.setTop (mkF m 0 #[.val (.ref a1)] [])) tq → Steps p.tables e below (s₁.setTop (entryFrame m #[(.ref a1)] 1)) tq := fun tq k => castTop (ef_7 m a1) k
  obtain ⟨T1, X1, e1, st1⟩ := getS2 X0 hx hZ hown (host := "") (Or.inl (hw _ (List.mem_of_getElem? (i := 41) rfl))) Via.refl e0 J.1 (g := (mkF m 0 #[.val (.ref a1)] [])) rfl (hb hby d7_0)
  obtain ⟨T2, X2, e2, st2⟩ := getF X1 hx hZ hown (host := "") (Or.inl (hw _ (List.mem_of_getElem? (i := 42) rfl))) Via.refl e1 St.2.1 (g := (mkF m 7 #[.val (.ref a1)] [(.ref a1)])) rfl rfl (hb hby d7_7)
  obtain ⟨fs, hr, hrun, hended, hW, hsame⟩ := X2.leave (v := some (.int (1 : Int32))) (fun h => by rw [Bd.returns] at h; cases h)
  refine ⟨_, _, pre0 _ ?_, hrun, hended, _, _, rfl, ?_, ⟨_, rfl⟩, hW, hsame.mono (by decide) (by decide)⟩
  · show Steps p.tables e below (s₁.setTop (mkF m 0 #[.val (.ref a1)] [])) _
    refine st1 _ ?_
    show Steps p.tables e below (T1.setTop (mkF m 3 #[.val (.ref a1)] [(.int w)])) _
    refine XS.ifNo X1.here hx rfl (hb hby d7_3) rfl ((if0 _ _).trans (feq J.2.1).1) ?_
    show Steps p.tables e below (T1.setTop (mkF m 6 #[.val (.ref a1)] [])) _
    refine XS.aloadN X1.here hx rfl (hb hby d7_6) rfl rfl ?_
    show Steps p.tables e below (T1.setTop (mkF m 7 #[.val (.ref a1)] [(.ref a1)])) _
    refine st2 _ ?_
    show Steps p.tables e below (T2.setTop (mkF m 10 #[.val (.ref a1)] [(.int (0 : Int32))])) _
    refine XS.ifNo X2.here hx rfl (hb hby d7_10) rfl ((if0 _ _).trans (teq (by decide : ((0 : Int32) = (0 : Int32)))).2) ?_
    show Steps p.tables e below (T2.setTop (mkF m 13 #[.val (.ref a1)] [])) _
    refine XS.iconst X2.here hx rfl (hb hby d7_13) ?_
    show Steps p.tables e below (T2.setTop (mkF m 14 #[.val (.ref a1)] [(.int (1 : Int32))])) _
    refine XS.goto X2.here hx rfl (pc0 := 14) (pc' := 18) rfl (hb hby d7_14) (by decide) (by decide) ?_
    show Steps p.tables e below (T2.setTop (mkF m 18 #[.val (.ref a1)] [(.int (1 : Int32))])) _
    exact retN X2 hx (t := .boolean) Bd.returns (by simp) (hb hby d7_18) hr
  · show own_Qo Z a1 h0 n0 _ T2.heap _
    rw [e2]
    exact ⟨rfl, N0, rfl⟩
theorem pd_4 : parseMethodDescriptor "()Z" = some ⟨[], some .boolean⟩ := by decide +kernel
theorem d13_0 : decode jdk_42_method_152_code 0 = .ok (.getstatic 38, 3) := by decide +kernel
theorem d13_3 : decode jdk_42_method_152_code 3 = .ok (.ifCond .eq 10, 3) := by decide +kernel
theorem d13_6 : decode jdk_42_method_152_code 6 = .ok (.aload_n 0, 1) := by decide +kernel
theorem d13_7 : decode jdk_42_method_152_code 7 = .ok (.getfield 15, 3) := by decide +kernel
theorem d13_10 : decode jdk_42_method_152_code 10 = .ok (.goto 4, 3) := by decide +kernel
theorem d13_13 : decode jdk_42_method_152_code 13 = .ok (.iconst 1, 1) := by decide +kernel
theorem d13_14 : decode jdk_42_method_152_code 14 = .ok (.ireturn, 1) := by decide +kernel
theorem pn_13 : plainName "java/lang/String" = true := by first | (simp [plainName, overriddenIn]; done) | decide +kernel
theorem ef_13 (m : MethodId) (x0 : Addr) : entryFrame m #[(.ref x0)] 1 = mkF m 0 #[.val (.ref x0)] [] := by first | (simp [entryFrame, mkF, argsToLocals, Value.category]; done) | rfl
set_option maxRecDepth 65536 in
set_option maxHeartbeats 40000000 in
theorem rmCo (l : Launch) (Z : State) (a0 : Array Value) (hw : ∀ d ∈ tables_1, d.before a0 Z = true) (ws : List Jvm.Cond) (a1 : Addr) (sb : Addr) (sk : ClassId) (w : Int32) (ci cA : Addr) (clA : Cell) (h0 : Heap) (n0 : Nat) (Z0 : n0 ≤ h0.size) (St : own_S Z h0 a1 sb sk) (J : own_J Z h0 w ci cA clA) :
    MetFree l (⟨"java/lang/String", "coder", "()B"⟩ : MethodName) (head1 (Jvm.Cond.code (⟨"java/lang/String", "coder", "()B"⟩ : MethodName) jdk_42_method_152_code 1 (some .byte) :: ws) ({ frames := 0, cells := 0, slots := 0, locals := 0 } : Room)) (fun a U => a = #[(.ref a1)] ∧ Z.Warmed39 U.vm ∧ U.heap = h0) (fun _ _ _ _ _ => True) (fun _ U o U' => ∃ v L, o = .returned v ∧ own_Qz Z a1 h0 n0 v U'.heap L ∧ FrameEnd U o U' L ({ frames := 0, cells := 0, slots := 0, locals := 0 } : Room).cells ({ frames := 0, cells := 0, slots := 0, locals := 0 } : Room).slots) := by
  refine MetFree.of_bodySF (plainFor_of_name pn_13) hisR ?_
  intro p e s m args below meth c s₁ Bd hml0 hP hK
  obtain ⟨rfl, hZ, hh⟩ := hP
  have hx := Bd.exec
  have hby := Bd.bytes
  have hml : c.maxLocals = 1 := hml0
  have hown : s.vm.findClass "java/lang/String" = some m.cls := findClass_of_methodNamed Bd.named
  have hnm := (name_of_methodNamed Bd.named Bd.method).1
  have X0 : Stand p l e ({ frames := 0, cells := 0, slots := 0, locals := 0 } : Room) s m #[(.ref a1)] below meth c s₁ [] 0 0 := Stand.of_body Bd
  have e0 : s₁.heap = h0 := by rw [← hh, Bd.state]; rfl
  have N0 := Fr.nil n0
  have pre0 : ∀ tq, Steps p.tables e below (s₁.setTop (mkF m 0 #[.val (.ref a1)] [])) tq → Steps p.tables e below (s₁.setTop (entryFrame m #[(.ref a1)] 1)) tq := fun tq k => castTop (ef_13 m a1) k
  obtain ⟨T1, X1, e1, st1⟩ := getS2 X0 hx hZ hown (host := "") (Or.inl (hw _ (List.mem_of_getElem? (i := 41) rfl))) Via.refl e0 J.1 (g := (mkF m 0 #[.val (.ref a1)] [])) rfl (hb hby d13_0)
  obtain ⟨T2, X2, e2, st2⟩ := getF X1 hx hZ hown (host := "") (Or.inl (hw _ (List.mem_of_getElem? (i := 42) rfl))) Via.refl e1 St.2.1 (g := (mkF m 7 #[.val (.ref a1)] [(.ref a1)])) rfl rfl (hb hby d13_7)
  obtain ⟨fs, hr, hrun, hended, hW, hsame⟩ := X2.leave (v := some (.int (0 : Int32))) (fun h => by rw [Bd.returns] at h; cases h)
  refine ⟨_, _, pre0 _ ?_, hrun, hended, _, _, rfl, ?_, ⟨_, rfl⟩, hW, hsame.mono (by decide) (by decide)⟩
  · show Steps p.tables e below (s₁.setTop (mkF m 0 #[.val (.ref a1)] [])) _
    refine st1 _ ?_
    show Steps p.tables e below (T1.setTop (mkF m 3 #[.val (.ref a1)] [(.int w)])) _
    refine XS.ifNo X1.here hx rfl (hb hby d13_3) rfl ((if0 _ _).trans (feq J.2.1).1) ?_
    show Steps p.tables e below (T1.setTop (mkF m 6 #[.val (.ref a1)] [])) _
    refine XS.aloadN X1.here hx rfl (hb hby d13_6) rfl rfl ?_
    show Steps p.tables e below (T1.setTop (mkF m 7 #[.val (.ref a1)] [(.ref a1)])) _
    refine st2 _ ?_
    show Steps p.tables e below (T2.setTop (mkF m 10 #[.val (.ref a1)] [(.int (0 : Int32))])) _
    refine XS.goto X2.here hx rfl (pc0 := 10) (pc' := 14) rfl (hb hby d13_10) (by decide) (by decide) ?_
    show Steps p.tables e below (T2.setTop (mkF m 14 #[.val (.ref a1)] [(.int (0 : Int32))])) _
    exact retN X2 hx (t := .byte) Bd.returns (by simp) (hb hby d13_14) hr
  · show own_Qz Z a1 h0 n0 _ T2.heap _
    rw [e2]
    exact ⟨rfl, N0, rfl⟩
theorem pd_5 : parseMethodDescriptor "()B" = some ⟨[], some .byte⟩ := by decide +kernel
theorem d6_0 : decode jdk_42_method_120_code 0 = .ok (.aload_n 0, 1) := by decide +kernel
theorem d6_1 : decode jdk_42_method_120_code 1 = .ok (.invokevirtual 492, 3) := by decide +kernel
theorem d6_4 : decode jdk_42_method_120_code 4 = .ok (.ifCond .eq 13, 3) := by decide +kernel
theorem d6_7 : decode jdk_42_method_120_code 7 = .ok (.aload_n 0, 1) := by decide +kernel
theorem d6_8 : decode jdk_42_method_120_code 8 = .ok (.getfield 9, 3) := by decide +kernel
theorem d6_11 : decode jdk_42_method_120_code 11 = .ok (.invokestatic 924, 3) := by decide +kernel
theorem d6_14 : decode jdk_42_method_120_code 14 = .ok (.goto 10, 3) := by decide +kernel
theorem d6_17 : decode jdk_42_method_120_code 17 = .ok (.aload_n 0, 1) := by decide +kernel
theorem d6_18 : decode jdk_42_method_120_code 18 = .ok (.getfield 9, 3) := by decide +kernel
theorem d6_21 : decode jdk_42_method_120_code 21 = .ok (.invokestatic 926, 3) := by decide +kernel
theorem d6_24 : decode jdk_42_method_120_code 24 = .ok (.ireturn, 1) := by decide +kernel
theorem pn_6 : plainName "java/lang/String" = true := by first | (simp [plainName, overriddenIn]; done) | decide +kernel
theorem ef_6 (m : MethodId) (x0 : Addr) : entryFrame m #[(.ref x0)] 1 = mkF m 0 #[.val (.ref x0)] [] := by first | (simp [entryFrame, mkF, argsToLocals, Value.category]; done) | rfl
set_option maxRecDepth 65536 in
set_option maxHeartbeats 40000000 in
theorem rmS (l : Launch) (Z : State) (a0 : Array Value) (hw : ∀ d ∈ tables_1, d.before a0 Z = true) (ws : List Jvm.Cond) (a1 : Addr) (sb : Addr) (sk : ClassId) (w : Int32) (ci cA : Addr) (clA : Cell) (h0 : Heap) (n0 : Nat) (Z0 : n0 ≤ h0.size) (St : own_S Z h0 a1 sb sk) (J : own_J Z h0 w ci cA clA) :
    MetFree l (⟨"java/lang/String", "indexOfNonWhitespace", "()I"⟩ : MethodName) (head1 (Jvm.Cond.code (⟨"java/lang/String", "indexOfNonWhitespace", "()I"⟩ : MethodName) jdk_42_method_120_code 1 (some .int) :: ws) ({ frames := 3, cells := 0, slots := 0, locals := 44 } : Room)) (fun a U => a = #[(.ref a1)] ∧ Z.Warmed39 U.vm ∧ U.heap = h0) (fun _ _ _ _ _ => True) (fun _ U o U' => ∃ v L, o = .returned v ∧ own_Qz Z a1 h0 n0 v U'.heap L ∧ FrameEnd U o U' L ({ frames := 3, cells := 0, slots := 0, locals := 44 } : Room).cells ({ frames := 3, cells := 0, slots := 0, locals := 44 } : Room).slots) := by
  refine MetFree.of_bodySF (plainFor_of_name pn_6) hisR ?_
  intro p e s m args below meth c s₁ Bd hml0 hP hK
  obtain ⟨rfl, hZ, hh⟩ := hP
  have hx := Bd.exec
  have hby := Bd.bytes
  have hml : c.maxLocals = 1 := hml0
  have hown : s.vm.findClass "java/lang/String" = some m.cls := findClass_of_methodNamed Bd.named
  have hnm := (name_of_methodNamed Bd.named Bd.method).1
  have X0 : Stand p l e ({ frames := 3, cells := 0, slots := 0, locals := 44 } : Room) s m #[(.ref a1)] below meth c s₁ [] 0 0 := Stand.of_body Bd
  have e0 : s₁.heap = h0 := by rw [← hh, Bd.state]; rfl
  have N0 := Fr.nil n0
  have pre0 : ∀ tq, Steps p.tables e below (s₁.setTop (mkF m 0 #[.val (.ref a1)] [])) tq → Steps p.tables e below (s₁.setTop (entryFrame m #[(.ref a1)] 1)) tq := fun tq k => castTop (ef_6 m a1) k
  obtain ⟨cq1, kq1, q1a, q1b, q1c⟩ := isOf hZ e0 St.1
  obtain ⟨_, _, ⟨T1, L1, k1, n1⟩, -, X1, ⟨Lc1, hQ1, l1, y1, z1⟩, st1⟩ := X0.virtualBack hx (y := (⟨"java/lang/String", "isLatin1", "()Z"⟩ : MethodName)) (z := (⟨"java/lang/String", "isLatin1", "()Z"⟩ : MethodName)) hown (mvT hZ (hw _ (List.mem_of_getElem? (i := 36) rfl))) (mvT hZ (hw _ (List.mem_of_getElem? (i := 37) rfl))) (notFace_of_selects (args := #[]) (mvT hZ (hw _ (List.mem_of_getElem? (i := 39) rfl)))) (mvT hZ (hw _ (List.mem_of_getElem? (i := 39) rfl))) (mvT hZ (hw _ (List.mem_of_getElem? (i := 38) rfl))) (by decide) (backOf (W := 0) (rmI1 l Z a0 hw [] a1 sb sk w ci cA clA h0 n0 Z0 St J) hZ (hw _ (List.mem_of_getElem? (i := 40) rfl)) (hw _ (List.mem_of_getElem? (i := 4) rfl)) (by decide) (by decide)) q1a q1c (g := (mkF m 1 #[.val (.ref a1)] [(.ref a1)])) rfl (by rw [hml]; rfl) (Steps.refl _) (argsL := []) (rest := []) (lenOf pd_4 rfl) rfl (by show 2 * 0 + _ ≤ _; exact Nat.le_of_eq rfl) (hb hby d6_1) (fun _ _ => ⟨rfl, e0, (by decide : 0 + 0 ≤ _), (by decide : 0 + 0 ≤ _)⟩)
  dsimp only [Pt.U, Pt.locs, Pt.cells, Pt.slots] at X1 l1 y1 z1 st1 hQ1
  subst l1 y1 z1
  obtain ⟨rfl, N1q, e1⟩ := hQ1
  have N1 := Fr.app N0 N1q
  obtain ⟨T2, X2, e2, st2⟩ := getF X1 hx hZ hown (host := "") (Or.inl (hw _ (List.mem_of_getElem? (i := 43) rfl))) Via.refl e1 St.2.2.1 (g := (mkF m 8 #[.val (.ref a1)] [(.ref a1)])) rfl rfl (hb hby d6_8)
  obtain ⟨_, _, ⟨T3, L3, k3, n3⟩, -, X3, ⟨Lc3, hQ3, l3, y3, z3⟩, st3⟩ := Jvm.LawKit.callS X2 hx (y := (⟨"java/lang/StringLatin1", "indexOfNonWhitespace", "([B)I"⟩ : MethodName)) hown (mvT hZ (hw _ (List.mem_of_getElem? (i := 44) rfl))) (mvT hZ (hw _ (List.mem_of_getElem? (i := 45) rfl))) (mvT hZ (hw _ (List.mem_of_getElem? (i := 46) rfl))) (mvT hZ (hw _ (List.mem_of_getElem? (i := 47) rfl))) (by decide) (backOf (W := 0) (rmN l Z a0 hw [] sb sk w ci cA clA h0 n0 Z0 St.2.2.2 J) hZ (hw _ (List.mem_of_getElem? (i := 47) rfl)) (hw _ (List.mem_of_getElem? (i := 46) rfl)) (by decide) (by decide)) (g := (mkF m 11 #[.val (.ref a1)] [(.ref sb)])) rfl (by rw [hml]; rfl) (argsL := [(.ref sb)]) (rest := []) (lenOf pd_3 rfl) rfl (by show 2 * 0 + _ ≤ _; exact Nat.le_of_eq rfl) (hb hby d6_11) (fun _ _ => ⟨rfl, e2, (by decide : 0 + 0 ≤ _), (by decide : 0 + 0 ≤ _)⟩)
  dsimp only [Pt.U, Pt.locs, Pt.cells, Pt.slots] at X3 l3 y3 z3 st3 hQ3
  subst l3 y3 z3
  obtain ⟨rfl, N3q, e3⟩ := hQ3
  have N3 := Fr.app N1 N3q
  obtain ⟨fs, hr, hrun, hended, hW, hsame⟩ := X3.leave (v := some (.int (0 : Int32))) (fun h => by rw [Bd.returns] at h; cases h)
  refine ⟨_, _, pre0 _ ?_, hrun, hended, _, _, rfl, ?_, ⟨_, rfl⟩, hW, hsame.mono (by decide) (by decide)⟩
  · show Steps p.tables e below (s₁.setTop (mkF m 0 #[.val (.ref a1)] [])) _
    refine XS.aloadN X0.here hx rfl (hb hby d6_0) rfl rfl ?_
    show Steps p.tables e below (s₁.setTop (mkF m 1 #[.val (.ref a1)] [(.ref a1)])) _
    refine st1.trans ?_
    show Steps p.tables e below (T1.setTop (mkF m 4 #[.val (.ref a1)] [(.int (1 : Int32))])) _
    refine XS.ifNo X1.here hx rfl (hb hby d6_4) rfl ((if0 _ _).trans (feq (by decide : ¬ ((1 : Int32) = (0 : Int32)))).1) ?_
    show Steps p.tables e below (T1.setTop (mkF m 7 #[.val (.ref a1)] [])) _
    refine XS.aloadN X1.here hx rfl (hb hby d6_7) rfl rfl ?_
    show Steps p.tables e below (T1.setTop (mkF m 8 #[.val (.ref a1)] [(.ref a1)])) _
    refine st2 _ ?_
    show Steps p.tables e below (T2.setTop (mkF m 11 #[.val (.ref a1)] [(.ref sb)])) _
    refine st3 _ ?_
    show Steps p.tables e below (T3.setTop (mkF m 14 #[.val (.ref a1)] [(.int (0 : Int32))])) _
    refine XS.goto X3.here hx rfl (pc0 := 14) (pc' := 24) rfl (hb hby d6_14) (by decide) (by decide) ?_
    show Steps p.tables e below (T3.setTop (mkF m 24 #[.val (.ref a1)] [(.int (0 : Int32))])) _
    exact retI X3 hx Bd.returns (hb hby d6_24) hr
  · show own_Qz Z a1 h0 n0 _ T3.heap _
    rw [e3]
    exact ⟨rfl, N3, rfl⟩
theorem pd_6 : parseMethodDescriptor "()I" = some ⟨[], some .int⟩ := by decide +kernel
theorem d12_0 : decode jdk_42_method_54_code 0 = .ok (.aload_n 0, 1) := by decide +kernel
theorem d12_1 : decode jdk_42_method_54_code 1 = .ok (.getfield 9, 3) := by decide +kernel
theorem d12_4 : decode jdk_42_method_54_code 4 = .ok (.arraylength, 1) := by decide +kernel
theorem d12_5 : decode jdk_42_method_54_code 5 = .ok (.aload_n 0, 1) := by decide +kernel
theorem d12_6 : decode jdk_42_method_54_code 6 = .ok (.invokevirtual 335, 3) := by decide +kernel
theorem d12_9 : decode jdk_42_method_54_code 9 = .ok (.ishr, 1) := by decide +kernel
theorem d12_10 : decode jdk_42_method_54_code 10 = .ok (.ireturn, 1) := by decide +kernel
theorem pn_12 : plainName "java/lang/String" = true := by first | (simp [plainName, overriddenIn]; done) | decide +kernel
theorem ef_12 (m : MethodId) (x0 : Addr) : entryFrame m #[(.ref x0)] 1 = mkF m 0 #[.val (.ref x0)] [] := by first | (simp [entryFrame, mkF, argsToLocals, Value.category]; done) | rfl
set_option maxRecDepth 65536 in
set_option maxHeartbeats 40000000 in
theorem rmLn (l : Launch) (Z : State) (a0 : Array Value) (hw : ∀ d ∈ tables_1, d.before a0 Z = true) (ws : List Jvm.Cond) (a1 : Addr) (sb : Addr) (sk : ClassId) (w : Int32) (ci cA : Addr) (clA : Cell) (h0 : Heap) (n0 : Nat) (Z0 : n0 ≤ h0.size) (St : own_S Z h0 a1 sb sk) (J : own_J Z h0 w ci cA clA) :
    MetFree l (⟨"java/lang/String", "length", "()I"⟩ : MethodName) (head1 (Jvm.Cond.code (⟨"java/lang/String", "length", "()I"⟩ : MethodName) jdk_42_method_54_code 1 (some .int) :: ws) ({ frames := 1, cells := 0, slots := 0, locals := 13 } : Room)) (fun a U => a = #[(.ref a1)] ∧ Z.Warmed39 U.vm ∧ U.heap = h0) (fun _ _ _ _ _ => True) (fun _ U o U' => ∃ v L, o = .returned v ∧ own_Qo Z a1 h0 n0 v U'.heap L ∧ FrameEnd U o U' L ({ frames := 1, cells := 0, slots := 0, locals := 13 } : Room).cells ({ frames := 1, cells := 0, slots := 0, locals := 13 } : Room).slots) := by
  refine MetFree.of_bodySF (plainFor_of_name pn_12) hisR ?_
  intro p e s m args below meth c s₁ Bd hml0 hP hK
  obtain ⟨rfl, hZ, hh⟩ := hP
  have hx := Bd.exec
  have hby := Bd.bytes
  have hml : c.maxLocals = 1 := hml0
  have hown : s.vm.findClass "java/lang/String" = some m.cls := findClass_of_methodNamed Bd.named
  have hnm := (name_of_methodNamed Bd.named Bd.method).1
  have X0 : Stand p l e ({ frames := 1, cells := 0, slots := 0, locals := 13 } : Room) s m #[(.ref a1)] below meth c s₁ [] 0 0 := Stand.of_body Bd
  have e0 : s₁.heap = h0 := by rw [← hh, Bd.state]; rfl
  have N0 := Fr.nil n0
  have pre0 : ∀ tq, Steps p.tables e below (s₁.setTop (mkF m 0 #[.val (.ref a1)] [])) tq → Steps p.tables e below (s₁.setTop (entryFrame m #[(.ref a1)] 1)) tq := fun tq k => castTop (ef_12 m a1) k
  obtain ⟨T1, X1, e1, st1⟩ := getF X0 hx hZ hown (host := "") (Or.inl (hw _ (List.mem_of_getElem? (i := 43) rfl))) Via.refl e0 St.2.2.1 (g := (mkF m 1 #[.val (.ref a1)] [(.ref a1)])) rfl rfl (hb hby d12_1)
  obtain ⟨clq2, Arq2, cq2, Sq2, nq2, Hq2, Gq2⟩ := id St.2.2.2
  obtain ⟨cq3, kq3, q3a, q3b, q3c⟩ := isOf hZ e1 St.1
  obtain ⟨_, _, ⟨T3, L3, k3, n3⟩, -, X3, ⟨Lc3, hQ3, l3, y3, z3⟩, st3⟩ := X1.virtualBack hx (y := (⟨"java/lang/String", "coder", "()B"⟩ : MethodName)) (z := (⟨"java/lang/String", "coder", "()B"⟩ : MethodName)) hown (mvT hZ (hw _ (List.mem_of_getElem? (i := 69) rfl))) (mvT hZ (hw _ (List.mem_of_getElem? (i := 70) rfl))) (notFace_of_selects (args := #[]) (mvT hZ (hw _ (List.mem_of_getElem? (i := 72) rfl)))) (mvT hZ (hw _ (List.mem_of_getElem? (i := 72) rfl))) (mvT hZ (hw _ (List.mem_of_getElem? (i := 71) rfl))) (by decide) (backOf (W := 1) (rmCo l Z a0 hw [] a1 sb sk w ci cA clA h0 n0 Z0 St J) hZ (hw _ (List.mem_of_getElem? (i := 73) rfl)) (hw _ (List.mem_of_getElem? (i := 4) rfl)) (by decide) (by decide)) q3a q3c (g := (mkF m 6 #[.val (.ref a1)] [(.ref a1), (.int (1 : Int32))])) rfl (by rw [hml]; rfl) (Steps.refl _) (argsL := []) (rest := [(.int (1 : Int32))]) (lenOf pd_5 rfl) rfl (by show 2 * 0 + _ ≤ _; exact Nat.le_of_eq rfl) (hb hby d12_6) (fun _ _ => ⟨rfl, e1, (by decide : 0 + 0 ≤ _), (by decide : 0 + 0 ≤ _)⟩)
  dsimp only [Pt.U, Pt.locs, Pt.cells, Pt.slots] at X3 l3 y3 z3 st3 hQ3
  subst l3 y3 z3
  obtain ⟨rfl, N3q, e3⟩ := hQ3
  have N3 := Fr.app N0 N3q
  obtain ⟨fs, hr, hrun, hended, hW, hsame⟩ := X3.leave (v := some (.int (1 : Int32))) (fun h => by rw [Bd.returns] at h; cases h)
  refine ⟨_, _, pre0 _ ?_, hrun, hended, _, _, rfl, ?_, ⟨_, rfl⟩, hW, hsame.mono (by decide) (by decide)⟩
  · show Steps p.tables e below (s₁.setTop (mkF m 0 #[.val (.ref a1)] [])) _
    refine XS.aloadN X0.here hx rfl (hb hby d12_0) rfl rfl ?_
    show Steps p.tables e below (s₁.setTop (mkF m 1 #[.val (.ref a1)] [(.ref a1)])) _
    refine st1 _ ?_
    show Steps p.tables e below (T1.setTop (mkF m 4 #[.val (.ref a1)] [(.ref sb)])) _
    refine X1.arraylength hx (by rw [e1]; exact Arq2.1) (State.isArrayOf_alike hZ.alike Arq2.2.1) (g := (mkF m 4 #[.val (.ref a1)] [(.ref sb)])) rfl rfl (hb hby d12_4) _ ?_
    rw [len_of Sq2 nq2]
    show Steps p.tables e below (T1.setTop (mkF m 5 #[.val (.ref a1)] [(.int (1 : Int32))])) _
    refine XS.aloadN X1.here hx rfl (hb hby d12_5) rfl rfl ?_
    show Steps p.tables e below (T1.setTop (mkF m 6 #[.val (.ref a1)] [(.ref a1), (.int (1 : Int32))])) _
    refine st3.trans ?_
    show Steps p.tables e below (T3.setTop (mkF m 9 #[.val (.ref a1)] [(.int (0 : Int32)), (.int (1 : Int32))])) _
    refine XS.ishr X3.here hx rfl (hb hby d12_9) rfl ?_
    show Steps p.tables e below (T3.setTop (mkF m 10 #[.val (.ref a1)] [(.int (1 : Int32))])) _
    exact retI X3 hx Bd.returns (hb hby d12_10) hr
  · show own_Qo Z a1 h0 n0 _ T3.heap _
    rw [e3]
    exact ⟨rfl, N3, rfl⟩
theorem d5_0 : decode jdk_42_method_117_code 0 = .ok (.aload_n 0, 1) := by decide +kernel
theorem d5_1 : decode jdk_42_method_117_code 1 = .ok (.invokevirtual 876, 3) := by decide +kernel
theorem d5_4 : decode jdk_42_method_117_code 4 = .ok (.aload_n 0, 1) := by decide +kernel
theorem d5_5 : decode jdk_42_method_117_code 5 = .ok (.invokevirtual 505, 3) := by decide +kernel
theorem d5_8 : decode jdk_42_method_117_code 8 = .ok (.if_icmp .ne 7, 3) := by decide +kernel
theorem d5_11 : decode jdk_42_method_117_code 11 = .ok (.iconst 1, 1) := by decide +kernel
theorem d5_12 : decode jdk_42_method_117_code 12 = .ok (.goto 4, 3) := by decide +kernel
theorem d5_15 : decode jdk_42_method_117_code 15 = .ok (.iconst 0, 1) := by decide +kernel
theorem d5_16 : decode jdk_42_method_117_code 16 = .ok (.ireturn, 1) := by decide +kernel
theorem pn_5 : plainName "java/lang/String" = true := by first | (simp [plainName, overriddenIn]; done) | decide +kernel
theorem ef_5 (m : MethodId) (x0 : Addr) : entryFrame m #[(.ref x0)] 1 = mkF m 0 #[.val (.ref x0)] [] := by first | (simp [entryFrame, mkF, argsToLocals, Value.category]; done) | rfl
set_option maxRecDepth 65536 in
set_option maxHeartbeats 40000000 in
theorem rmB (l : Launch) (Z : State) (a0 : Array Value) (hw : ∀ d ∈ tables_1, d.before a0 Z = true) (ws : List Jvm.Cond) (a1 : Addr) (sb : Addr) (sk : ClassId) (w : Int32) (ci cA : Addr) (clA : Cell) (h0 : Heap) (n0 : Nat) (Z0 : n0 ≤ h0.size) (St : own_S Z h0 a1 sb sk) (J : own_J Z h0 w ci cA clA) :
    MetFree l (⟨"java/lang/String", "isBlank", "()Z"⟩ : MethodName) (head1 (Jvm.Cond.code (⟨"java/lang/String", "isBlank", "()Z"⟩ : MethodName) jdk_42_method_117_code 1 (some .boolean) :: ws) ({ frames := 4, cells := 0, slots := 0, locals := 56 } : Room)) (fun a U => a = #[(.ref a1)] ∧ Z.Warmed39 U.vm ∧ U.heap = h0) (fun _ _ _ _ _ => True) (fun _ U o U' => ∃ v L, o = .returned v ∧ own_Qz Z a1 h0 n0 v U'.heap L ∧ FrameEnd U o U' L ({ frames := 4, cells := 0, slots := 0, locals := 56 } : Room).cells ({ frames := 4, cells := 0, slots := 0, locals := 56 } : Room).slots) := by
  refine MetFree.of_bodySF (plainFor_of_name pn_5) hisR ?_
  intro p e s m args below meth c s₁ Bd hml0 hP hK
  obtain ⟨rfl, hZ, hh⟩ := hP
  have hx := Bd.exec
  have hby := Bd.bytes
  have hml : c.maxLocals = 1 := hml0
  have hown : s.vm.findClass "java/lang/String" = some m.cls := findClass_of_methodNamed Bd.named
  have hnm := (name_of_methodNamed Bd.named Bd.method).1
  have X0 : Stand p l e ({ frames := 4, cells := 0, slots := 0, locals := 56 } : Room) s m #[(.ref a1)] below meth c s₁ [] 0 0 := Stand.of_body Bd
  have e0 : s₁.heap = h0 := by rw [← hh, Bd.state]; rfl
  have N0 := Fr.nil n0
  have pre0 : ∀ tq, Steps p.tables e below (s₁.setTop (mkF m 0 #[.val (.ref a1)] [])) tq → Steps p.tables e below (s₁.setTop (entryFrame m #[(.ref a1)] 1)) tq := fun tq k => castTop (ef_5 m a1) k
  obtain ⟨cq1, q1, q1'⟩ := St.1.cell
  obtain ⟨_, _, ⟨T1, L1, k1, n1⟩, -, X1, ⟨Lc1, hQ1, l1, y1, z1⟩, st1⟩ := X0.privateBack hx (y := (⟨"java/lang/String", "indexOfNonWhitespace", "()I"⟩ : MethodName)) hown (mvT hZ (hw _ (List.mem_of_getElem? (i := 31) rfl))) (mvT hZ (hw _ (List.mem_of_getElem? (i := 32) rfl))) (mvT hZ (hw _ (List.mem_of_getElem? (i := 34) rfl))) (Cond.privateMethod_at (mvP hZ (hw _ (List.mem_of_getElem? (i := 33) rfl)) (args := #[]))) (mvT hZ (hw _ (List.mem_of_getElem? (i := 35) rfl))) (by decide) (backOf (W := 0) (rmS l Z a0 hw [] a1 sb sk w ci cA clA h0 n0 Z0 St J) hZ (hw _ (List.mem_of_getElem? (i := 35) rfl)) (hw _ (List.mem_of_getElem? (i := 4) rfl)) (by decide) (by decide)) (g := (mkF m 1 #[.val (.ref a1)] [(.ref a1)])) rfl (by rw [hml]; rfl) (Steps.refl _) (a := a1) (by rw [e0]; exact q1) q1' (argsL := []) (rest := []) (lenOf pd_6 rfl) rfl (by show 2 * 0 + _ ≤ _; exact Nat.le_of_eq rfl) (hb hby d5_1) (fun _ _ => ⟨rfl, e0, (by decide : 0 + 0 ≤ _), (by decide : 0 + 0 ≤ _)⟩)
  dsimp only [Pt.U, Pt.locs, Pt.cells, Pt.slots] at X1 l1 y1 z1 st1 hQ1
  subst l1 y1 z1
  obtain ⟨rfl, N1q, e1⟩ := hQ1
  have N1 := Fr.app N0 N1q
  obtain ⟨cq2, kq2, q2a, q2b, q2c⟩ := isOf hZ e1 St.1
  obtain ⟨_, _, ⟨T2, L2, k2, n2⟩, -, X2, ⟨Lc2, hQ2, l2, y2, z2⟩, st2⟩ := X1.virtualBack hx (y := (⟨"java/lang/String", "length", "()I"⟩ : MethodName)) (z := (⟨"java/lang/String", "length", "()I"⟩ : MethodName)) hown (mvT hZ (hw _ (List.mem_of_getElem? (i := 64) rfl))) (mvT hZ (hw _ (List.mem_of_getElem? (i := 65) rfl))) (notFace_of_selects (args := #[]) (mvT hZ (hw _ (List.mem_of_getElem? (i := 67) rfl)))) (mvT hZ (hw _ (List.mem_of_getElem? (i := 67) rfl))) (mvT hZ (hw _ (List.mem_of_getElem? (i := 66) rfl))) (by decide) (backOf (W := 1) (rmLn l Z a0 hw [] a1 sb sk w ci cA clA h0 n0 Z0 St J) hZ (hw _ (List.mem_of_getElem? (i := 68) rfl)) (hw _ (List.mem_of_getElem? (i := 4) rfl)) (by decide) (by decide)) q2a q2c (g := (mkF m 5 #[.val (.ref a1)] [(.ref a1), (.int (0 : Int32))])) rfl (by rw [hml]; rfl) (Steps.refl _) (argsL := []) (rest := [(.int (0 : Int32))]) (lenOf pd_6 rfl) rfl (by show 2 * 0 + _ ≤ _; exact Nat.le_of_eq rfl) (hb hby d5_5) (fun _ _ => ⟨rfl, e1, (by decide : 0 + 0 ≤ _), (by decide : 0 + 0 ≤ _)⟩)
  dsimp only [Pt.U, Pt.locs, Pt.cells, Pt.slots] at X2 l2 y2 z2 st2 hQ2
  subst l2 y2 z2
  obtain ⟨rfl, N2q, e2⟩ := hQ2
  have N2 := Fr.app N1 N2q
  obtain ⟨fs, hr, hrun, hended, hW, hsame⟩ := X2.leave (v := some (.int (0 : Int32))) (fun h => by rw [Bd.returns] at h; cases h)
  refine ⟨_, _, pre0 _ ?_, hrun, hended, _, _, rfl, ?_, ⟨_, rfl⟩, hW, hsame.mono (by decide) (by decide)⟩
  · show Steps p.tables e below (s₁.setTop (mkF m 0 #[.val (.ref a1)] [])) _
    refine XS.aloadN X0.here hx rfl (hb hby d5_0) rfl rfl ?_
    show Steps p.tables e below (s₁.setTop (mkF m 1 #[.val (.ref a1)] [(.ref a1)])) _
    refine st1.trans ?_
    show Steps p.tables e below (T1.setTop (mkF m 4 #[.val (.ref a1)] [(.int (0 : Int32))])) _
    refine XS.aloadN X1.here hx rfl (hb hby d5_4) rfl rfl ?_
    show Steps p.tables e below (T1.setTop (mkF m 5 #[.val (.ref a1)] [(.ref a1), (.int (0 : Int32))])) _
    refine st2.trans ?_
    show Steps p.tables e below (T2.setTop (mkF m 8 #[.val (.ref a1)] [(.int (1 : Int32)), (.int (0 : Int32))])) _
    refine XS.icmpYes X2.here hx rfl (pc0 := 8) (pc' := 15) rfl (hb hby d5_8) rfl (feq (by decide : ¬ ((0 : Int32) = (1 : Int32)))).2 (by decide) (by decide) ?_
    show Steps p.tables e below (T2.setTop (mkF m 15 #[.val (.ref a1)] [])) _
    refine XS.iconst X2.here hx rfl (hb hby d5_15) ?_
    show Steps p.tables e below (T2.setTop (mkF m 16 #[.val (.ref a1)] [(.int (0 : Int32))])) _
    exact retN X2 hx (t := .boolean) Bd.returns (by simp) (hb hby d5_16) hr
  · show own_Qz Z a1 h0 n0 _ T2.heap _
    rw [e2]
    exact ⟨rfl, N2, rfl⟩
def own_Qn (Z : State) (a1 a2 : Addr) := own_QR a1 Z
theorem d4_0 : decode jdk_31_method_11_code 0 = .ok (.aload_n 0, 1) := by decide +kernel
theorem d4_1 : decode jdk_31_method_11_code 1 = .ok (.ifnonnull 12, 3) := by decide +kernel
theorem d4_4 : decode jdk_31_method_11_code 4 = .ok (.new 84, 3) := by decide +kernel
theorem d4_7 : decode jdk_31_method_11_code 7 = .ok (.dup, 1) := by decide +kernel
theorem d4_8 : decode jdk_31_method_11_code 8 = .ok (.aload_n 1, 1) := by decide +kernel
theorem d4_9 : decode jdk_31_method_11_code 9 = .ok (.invokespecial 87, 3) := by decide +kernel
theorem d4_12 : decode jdk_31_method_11_code 12 = .ok (.athrow, 1) := by decide +kernel
theorem d4_13 : decode jdk_31_method_11_code 13 = .ok (.aload_n 0, 1) := by decide +kernel
theorem d4_14 : decode jdk_31_method_11_code 14 = .ok (.areturn, 1) := by decide +kernel
theorem pn_4 : plainName "java/util/Objects" = true := by first | (simp [plainName, overriddenIn]; done) | decide +kernel
theorem ef_4 (m : MethodId) (x0 : Addr) (x1 : Addr) : entryFrame m #[(.ref x0), (.ref x1)] 2 = mkF m 0 #[.val (.ref x0), .val (.ref x1)] [] := by first | (simp [entryFrame, mkF, argsToLocals, Value.category]; done) | rfl
set_option maxRecDepth 65536 in
set_option maxHeartbeats 40000000 in
theorem rmQ (l : Launch) (Z : State) (a0 : Array Value) (hw : ∀ d ∈ tables_1, d.before a0 Z = true) (ws : List Jvm.Cond) (a1 a2 : Addr) (h0 : Heap) (n0 : Nat) (Z0 : n0 ≤ h0.size) :
    MetFree l (⟨"java/util/Objects", "requireNonNull", "(Ljava/lang/Object;Ljava/lang/String;)Ljava/lang/Object;"⟩ : MethodName) (head1 (Jvm.Cond.code (⟨"java/util/Objects", "requireNonNull", "(Ljava/lang/Object;Ljava/lang/String;)Ljava/lang/Object;"⟩ : MethodName) jdk_31_method_11_code 2 (some (.object "java/lang/Object")) :: ws) ({ frames := 0, cells := 0, slots := 0, locals := 0 } : Room)) (fun a U => a = #[(.ref a1), (.ref a2)] ∧ Z.Warmed39 U.vm ∧ U.heap = h0) (fun _ _ _ _ _ => True) (fun _ U o U' => ∃ v L, o = .returned v ∧ own_Qn Z a1 a2 h0 n0 v U'.heap L ∧ FrameEnd U o U' L ({ frames := 0, cells := 0, slots := 0, locals := 0 } : Room).cells ({ frames := 0, cells := 0, slots := 0, locals := 0 } : Room).slots) := by
  refine MetFree.of_bodySF (plainFor_of_name pn_4) hisR ?_
  intro p e s m args below meth c s₁ Bd hml0 hP hK
  obtain ⟨rfl, hZ, hh⟩ := hP
  have hx := Bd.exec
  have hby := Bd.bytes
  have hml : c.maxLocals = 2 := hml0
  have hown : s.vm.findClass "java/util/Objects" = some m.cls := findClass_of_methodNamed Bd.named
  have hnm := (name_of_methodNamed Bd.named Bd.method).1
  have X0 : Stand p l e ({ frames := 0, cells := 0, slots := 0, locals := 0 } : Room) s m #[(.ref a1), (.ref a2)] below meth c s₁ [] 0 0 := Stand.of_body Bd
  have e0 : s₁.heap = h0 := by rw [← hh, Bd.state]; rfl
  have N0 := Fr.nil n0
  have pre0 : ∀ tq, Steps p.tables e below (s₁.setTop (mkF m 0 #[.val (.ref a1), .val (.ref a2)] [])) tq → Steps p.tables e below (s₁.setTop (entryFrame m #[(.ref a1), (.ref a2)] 2)) tq := fun tq k => castTop (ef_4 m a1 a2) k
  obtain ⟨fs, hr, hrun, hended, hW, hsame⟩ := X0.leave (v := some (.ref a1)) (fun h => by rw [Bd.returns] at h; cases h)
  refine ⟨_, _, pre0 _ ?_, hrun, hended, _, _, rfl, ?_, ⟨_, rfl⟩, hW, hsame.mono (by decide) (by decide)⟩
  · show Steps p.tables e below (s₁.setTop (mkF m 0 #[.val (.ref a1), .val (.ref a2)] [])) _
    refine XS.aloadN X0.here hx rfl (hb hby d4_0) rfl rfl ?_
    show Steps p.tables e below (s₁.setTop (mkF m 1 #[.val (.ref a1), .val (.ref a2)] [(.ref a1)])) _
    refine XS.ifnonnullYes X0.here hx rfl (pc0 := 1) (pc' := 13) rfl (hb hby d4_1) rfl (by decide) (by decide) ?_
    show Steps p.tables e below (s₁.setTop (mkF m 13 #[.val (.ref a1), .val (.ref a2)] [])) _
    refine XS.aloadN X0.here hx rfl (hb hby d4_13) rfl rfl ?_
    show Steps p.tables e below (s₁.setTop (mkF m 14 #[.val (.ref a1), .val (.ref a2)] [(.ref a1)])) _
    exact retOut X0 hx Bd.returns rfl (Or.inr (Or.inr (Or.inr (Or.inr ⟨rfl, rfl, rfl⟩)))) (hb hby d4_14) hr
  · show own_Qn Z a1 a2 h0 n0 _ s₁.heap _
    rw [e0]
    exact ⟨rfl, N0, rfl⟩
theorem pd_7 : parseMethodDescriptor "(Ljava/lang/Object;Ljava/lang/String;)Ljava/lang/Object;" = some ⟨[(.object "java/lang/Object"), (.object "java/lang/String")], some (.object "java/lang/Object")⟩ := by decide +kernel
def own_Qf (Z : State) := own_QI 0 Z
theorem own_d1 : FP.dconst1 = FP.l2d (1 : Int64) := by decide +kernel
theorem own_d0 : FP.dconst0 = FP.l2d (0 : Int64) := by decide +kernel
theorem own_c10 : cmpValue (FP.dcmp FP.dconst1 FP.dconst0) .l = (1 : Int32) := by decide +kernel
theorem own_c00 : cmpValue (FP.dcmp FP.dconst0 FP.dconst0) .l = (0 : Int32) := by decide +kernel
theorem own_m1 : cmpValue (FP.dcmp (FP.dconst1 &&& 0x7fffffffffffffff) (9218868437227405311 : UInt64)) .l = (-1 : Int32) := by decide +kernel
theorem own_m0 : cmpValue (FP.dcmp (FP.dconst0 &&& 0x7fffffffffffffff) (9218868437227405311 : UInt64)) .l = (-1 : Int32) := by decide +kernel
theorem pd_8 : parseMethodDescriptor "(D)D" = some ⟨[.double], some .double⟩ := by decide +kernel
theorem d14_0 : decode jdk_117_method_7_code 0 = .ok (.dload_n 0, 1) := by decide +kernel
theorem d14_1 : decode jdk_117_method_7_code 1 = .ok (.invokestatic 38, 3) := by decide +kernel
theorem d14_4 : decode jdk_117_method_7_code 4 = .ok (.ldc2_w 111, 3) := by decide +kernel
theorem d14_7 : decode jdk_117_method_7_code 7 = .ok (.dcmp .l, 1) := by decide +kernel
theorem d14_8 : decode jdk_117_method_7_code 8 = .ok (.ifCond .le 7, 3) := by decide +kernel
theorem d14_11 : decode jdk_117_method_7_code 11 = .ok (.iconst 1, 1) := by decide +kernel
theorem d14_12 : decode jdk_117_method_7_code 12 = .ok (.goto 4, 3) := by decide +kernel
theorem d14_15 : decode jdk_117_method_7_code 15 = .ok (.iconst 0, 1) := by decide +kernel
theorem d14_16 : decode jdk_117_method_7_code 16 = .ok (.ireturn, 1) := by decide +kernel
theorem pn_14 : plainName "java/lang/Double" = true := by first | (simp [plainName, overriddenIn]; done) | decide +kernel
theorem ef_14 (m : MethodId) (x0 : UInt64) : entryFrame m #[(.double x0)] 2 = mkF m 0 #[.val (.double x0), .second] [] := by first | (simp [entryFrame, mkF, argsToLocals, Value.category]; done) | rfl
set_option maxRecDepth 65536 in
set_option maxHeartbeats 40000000 in
theorem rmF1 (l : Launch) (Z : State) (a0 : Array Value) (hw : ∀ d ∈ tables_1, d.before a0 Z = true) (ws : List Jvm.Cond)  (h0 : Heap) (n0 : Nat) (Z0 : n0 ≤ h0.size) :
    MetFree l (⟨"java/lang/Double", "isInfinite", "(D)Z"⟩ : MethodName) (head1 (Jvm.Cond.code (⟨"java/lang/Double", "isInfinite", "(D)Z"⟩ : MethodName) jdk_117_method_7_code 2 (some .boolean) :: ws) ({ frames := 1, cells := 0, slots := 0, locals := 13 } : Room)) (fun a U => a = #[(.double FP.dconst1)] ∧ Z.Warmed39 U.vm ∧ U.heap = h0) (fun _ _ _ _ _ => True) (fun _ U o U' => ∃ v L, o = .returned v ∧ own_Qf Z  h0 n0 v U'.heap L ∧ FrameEnd U o U' L ({ frames := 1, cells := 0, slots := 0, locals := 13 } : Room).cells ({ frames := 1, cells := 0, slots := 0, locals := 13 } : Room).slots) := by
  refine MetFree.of_bodySF (plainFor_of_name pn_14) hisR ?_
  intro p e s m args below meth c s₁ Bd hml0 hP hK
  obtain ⟨rfl, hZ, hh⟩ := hP
  have hx := Bd.exec
  have hby := Bd.bytes
  have hml : c.maxLocals = 2 := hml0
  have hown : s.vm.findClass "java/lang/Double" = some m.cls := findClass_of_methodNamed Bd.named
  have hnm := (name_of_methodNamed Bd.named Bd.method).1
  have X0 : Stand p l e ({ frames := 1, cells := 0, slots := 0, locals := 13 } : Room) s m #[(.double FP.dconst1)] below meth c s₁ [] 0 0 := Stand.of_body Bd
  have e0 : s₁.heap = h0 := by rw [← hh, Bd.state]; rfl
  have N0 := Fr.nil n0
  have pre0 : ∀ tq, Steps p.tables e below (s₁.setTop (mkF m 0 #[.val (.double FP.dconst1), .second] [])) tq → Steps p.tables e below (s₁.setTop (entryFrame m #[(.double FP.dconst1)] 2)) tq := fun tq k => castTop (ef_14 m FP.dconst1) k
  obtain ⟨T1, X1, e1, st1⟩ := natS X0 hx hZ hown (hw _ (List.mem_of_getElem? (i := 78) rfl)) (hw _ (List.mem_of_getElem? (i := 79) rfl)) (hw _ (List.mem_of_getElem? (i := 80) rfl)) (hw _ (List.mem_of_getElem? (i := 81) rfl)) (by decide) e0 (W := 0) (fun c4 => Jvm.Free.Fl.Abs.absD_pays FP.dconst1 c4 (by decide) (by decide)) (g := (mkF m 1 #[.val (.double FP.dconst1), .second] [(.double FP.dconst1)])) rfl (by rw [hml]; rfl) (argsL := [(.double FP.dconst1)]) (rest := []) (lenOf pd_8 rfl) rfl (by show 2 * 0 + _ ≤ _; exact Nat.le_of_eq rfl) (hb hby d14_1) (by decide) (by decide) ⟨rfl, nn_w own_d1⟩ (rfl : Value.double (FP.dconst1 &&& 0x7fffffffffffffff) = Value.double (FP.dconst1 &&& 0x7fffffffffffffff))
  obtain ⟨fs, hr, hrun, hended, hW, hsame⟩ := X1.leave (v := some (.int (0 : Int32))) (fun h => by rw [Bd.returns] at h; cases h)
  refine ⟨_, _, pre0 _ ?_, hrun, hended, _, _, rfl, ?_, ⟨_, rfl⟩, hW, hsame.mono (by decide) (by decide)⟩
  · show Steps p.tables e below (s₁.setTop (mkF m 0 #[.val (.double FP.dconst1), .second] [])) _
    refine XS.dloadN X0.here hx rfl (hb hby d14_0) rfl ?_
    show Steps p.tables e below (s₁.setTop (mkF m 1 #[.val (.double FP.dconst1), .second] [(.double FP.dconst1)])) _
    refine st1 _ ?_
    show Steps p.tables e below (T1.setTop (mkF m 4 #[.val (.double FP.dconst1), .second] [(.double (FP.dconst1 &&& 0x7fffffffffffffff))])) _
    refine X1.ldc2DoubleC hx hown (mvT hZ (hw _ (List.mem_of_getElem? (i := 82) rfl))) (g := (mkF m 4 #[.val (.double FP.dconst1), .second] [(.double (FP.dconst1 &&& 0x7fffffffffffffff))])) rfl (hb hby d14_4) _ ?_
    show Steps p.tables e below (T1.setTop (mkF m 7 #[.val (.double FP.dconst1), .second] [(.double (9218868437227405311 : UInt64)), (.double (FP.dconst1 &&& 0x7fffffffffffffff))])) _
    refine XS.dcmpS X1.here hx rfl (hb hby d14_7) rfl (v := (-1 : Int32)) own_m1 ?_
    show Steps p.tables e below (T1.setTop (mkF m 8 #[.val (.double FP.dconst1), .second] [(.int (-1 : Int32))])) _
    refine XS.ifYes X1.here hx rfl (pc0 := 8) (pc' := 15) rfl (hb hby d14_8) rfl ((if0 _ _).trans (flt (by decide : ¬ ((0 : Int32) < (-1 : Int32)))).2.2.2) (by decide) (by decide) ?_
    show Steps p.tables e below (T1.setTop (mkF m 15 #[.val (.double FP.dconst1), .second] [])) _
    refine XS.iconst X1.here hx rfl (hb hby d14_15) ?_
    show Steps p.tables e below (T1.setTop (mkF m 16 #[.val (.double FP.dconst1), .second] [(.int (0 : Int32))])) _
    exact retN X1 hx (t := .boolean) Bd.returns (by simp) (hb hby d14_16) hr
  · show own_Qf Z  h0 n0 _ T1.heap _
    rw [e1]
    exact ⟨rfl, N0, rfl⟩
set_option maxRecDepth 65536 in
set_option maxHeartbeats 40000000 in
theorem rmF0 (l : Launch) (Z : State) (a0 : Array Value) (hw : ∀ d ∈ tables_1, d.before a0 Z = true) (ws : List Jvm.Cond)  (h0 : Heap) (n0 : Nat) (Z0 : n0 ≤ h0.size) :
    MetFree l (⟨"java/lang/Double", "isInfinite", "(D)Z"⟩ : MethodName) (head1 (Jvm.Cond.code (⟨"java/lang/Double", "isInfinite", "(D)Z"⟩ : MethodName) jdk_117_method_7_code 2 (some .boolean) :: ws) ({ frames := 1, cells := 0, slots := 0, locals := 13 } : Room)) (fun a U => a = #[(.double FP.dconst0)] ∧ Z.Warmed39 U.vm ∧ U.heap = h0) (fun _ _ _ _ _ => True) (fun _ U o U' => ∃ v L, o = .returned v ∧ own_Qf Z  h0 n0 v U'.heap L ∧ FrameEnd U o U' L ({ frames := 1, cells := 0, slots := 0, locals := 13 } : Room).cells ({ frames := 1, cells := 0, slots := 0, locals := 13 } : Room).slots) := by
  refine MetFree.of_bodySF (plainFor_of_name pn_14) hisR ?_
  intro p e s m args below meth c s₁ Bd hml0 hP hK
  obtain ⟨rfl, hZ, hh⟩ := hP
  have hx := Bd.exec
  have hby := Bd.bytes
  have hml : c.maxLocals = 2 := hml0
  have hown : s.vm.findClass "java/lang/Double" = some m.cls := findClass_of_methodNamed Bd.named
  have hnm := (name_of_methodNamed Bd.named Bd.method).1
  have X0 : Stand p l e ({ frames := 1, cells := 0, slots := 0, locals := 13 } : Room) s m #[(.double FP.dconst0)] below meth c s₁ [] 0 0 := Stand.of_body Bd
  have e0 : s₁.heap = h0 := by rw [← hh, Bd.state]; rfl
  have N0 := Fr.nil n0
  have pre0 : ∀ tq, Steps p.tables e below (s₁.setTop (mkF m 0 #[.val (.double FP.dconst0), .second] [])) tq → Steps p.tables e below (s₁.setTop (entryFrame m #[(.double FP.dconst0)] 2)) tq := fun tq k => castTop (ef_14 m FP.dconst0) k
  obtain ⟨T1, X1, e1, st1⟩ := natS X0 hx hZ hown (hw _ (List.mem_of_getElem? (i := 78) rfl)) (hw _ (List.mem_of_getElem? (i := 79) rfl)) (hw _ (List.mem_of_getElem? (i := 80) rfl)) (hw _ (List.mem_of_getElem? (i := 81) rfl)) (by decide) e0 (W := 0) (fun c4 => Jvm.Free.Fl.Abs.absD_pays FP.dconst0 c4 (by decide) (by decide)) (g := (mkF m 1 #[.val (.double FP.dconst0), .second] [(.double FP.dconst0)])) rfl (by rw [hml]; rfl) (argsL := [(.double FP.dconst0)]) (rest := []) (lenOf pd_8 rfl) rfl (by show 2 * 0 + _ ≤ _; exact Nat.le_of_eq rfl) (hb hby d14_1) (by decide) (by decide) ⟨rfl, nn_w own_d0⟩ (rfl : Value.double (FP.dconst0 &&& 0x7fffffffffffffff) = Value.double (FP.dconst0 &&& 0x7fffffffffffffff))
  obtain ⟨fs, hr, hrun, hended, hW, hsame⟩ := X1.leave (v := some (.int (0 : Int32))) (fun h => by rw [Bd.returns] at h; cases h)
  refine ⟨_, _, pre0 _ ?_, hrun, hended, _, _, rfl, ?_, ⟨_, rfl⟩, hW, hsame.mono (by decide) (by decide)⟩
  · show Steps p.tables e below (s₁.setTop (mkF m 0 #[.val (.double FP.dconst0), .second] [])) _
    refine XS.dloadN X0.here hx rfl (hb hby d14_0) rfl ?_
    show Steps p.tables e below (s₁.setTop (mkF m 1 #[.val (.double FP.dconst0), .second] [(.double FP.dconst0)])) _
    refine st1 _ ?_
    show Steps p.tables e below (T1.setTop (mkF m 4 #[.val (.double FP.dconst0), .second] [(.double (FP.dconst0 &&& 0x7fffffffffffffff))])) _
    refine X1.ldc2DoubleC hx hown (mvT hZ (hw _ (List.mem_of_getElem? (i := 82) rfl))) (g := (mkF m 4 #[.val (.double FP.dconst0), .second] [(.double (FP.dconst0 &&& 0x7fffffffffffffff))])) rfl (hb hby d14_4) _ ?_
    show Steps p.tables e below (T1.setTop (mkF m 7 #[.val (.double FP.dconst0), .second] [(.double (9218868437227405311 : UInt64)), (.double (FP.dconst0 &&& 0x7fffffffffffffff))])) _
    refine XS.dcmpS X1.here hx rfl (hb hby d14_7) rfl (v := (-1 : Int32)) own_m0 ?_
    show Steps p.tables e below (T1.setTop (mkF m 8 #[.val (.double FP.dconst0), .second] [(.int (-1 : Int32))])) _
    refine XS.ifYes X1.here hx rfl (pc0 := 8) (pc' := 15) rfl (hb hby d14_8) rfl ((if0 _ _).trans (flt (by decide : ¬ ((0 : Int32) < (-1 : Int32)))).2.2.2) (by decide) (by decide) ?_
    show Steps p.tables e below (T1.setTop (mkF m 15 #[.val (.double FP.dconst0), .second] [])) _
    refine XS.iconst X1.here hx rfl (hb hby d14_15) ?_
    show Steps p.tables e below (T1.setTop (mkF m 16 #[.val (.double FP.dconst0), .second] [(.int (0 : Int32))])) _
    exact retN X1 hx (t := .boolean) Bd.returns (by simp) (hb hby d14_16) hr
  · show own_Qf Z  h0 n0 _ T1.heap _
    rw [e1]
    exact ⟨rfl, N0, rfl⟩
theorem pd_9 : parseMethodDescriptor "(D)Z" = some ⟨[.double], some .boolean⟩ := by decide +kernel
def own_Qk (Z : State) (a1 : Addr) (co : Int32) := own_QI co Z
theorem d17_0 : decode prog_66_method_4_code 0 = .ok (.aload_n 0, 1) := by decide +kernel
theorem d17_1 : decode prog_66_method_4_code 1 = .ok (.getfield 31, 3) := by decide +kernel
theorem d17_4 : decode prog_66_method_4_code 4 = .ok (.ireturn, 1) := by decide +kernel
theorem pn_17 : plainName "com/example/makespun/makespun/pool/Machine" = true := by first | (simp [plainName, overriddenIn]; done) | decide +kernel
theorem ef_17 (m : MethodId) (x0 : Addr) : entryFrame m #[(.ref x0)] 1 = mkF m 0 #[.val (.ref x0)] [] := by first | (simp [entryFrame, mkF, argsToLocals, Value.category]; done) | rfl
set_option maxRecDepth 65536 in
set_option maxHeartbeats 40000000 in
theorem rmGC (l : Launch) (Z : State) (a0 : Array Value) (hw : ∀ d ∈ tables_1, d.before a0 Z = true) (ws : List Jvm.Cond) (a1 : Addr) (co : Int32) (h0 : Heap) (n0 : Nat) (Z0 : n0 ≤ h0.size) (F1 : Fld Z h0 a1 "com/example/makespun/makespun/pool/Machine" "cores" "I" (.int co)) :
    MetFree l (⟨"com/example/makespun/makespun/pool/Machine", "getCores", "()I"⟩ : MethodName) (head1 (Jvm.Cond.code (⟨"com/example/makespun/makespun/pool/Machine", "getCores", "()I"⟩ : MethodName) prog_66_method_4_code 1 (some .int) :: ws) ({ frames := 0, cells := 0, slots := 0, locals := 0 } : Room)) (fun a U => a = #[(.ref a1)] ∧ Z.Warmed39 U.vm ∧ U.heap = h0) (fun _ _ _ _ _ => True) (fun _ U o U' => ∃ v L, o = .returned v ∧ own_Qk Z a1 co h0 n0 v U'.heap L ∧ FrameEnd U o U' L ({ frames := 0, cells := 0, slots := 0, locals := 0 } : Room).cells ({ frames := 0, cells := 0, slots := 0, locals := 0 } : Room).slots) := by
  refine MetFree.of_bodySF (plainFor_of_name pn_17) hisR ?_
  intro p e s m args below meth c s₁ Bd hml0 hP hK
  obtain ⟨rfl, hZ, hh⟩ := hP
  have hx := Bd.exec
  have hby := Bd.bytes
  have hml : c.maxLocals = 1 := hml0
  have hown : s.vm.findClass "com/example/makespun/makespun/pool/Machine" = some m.cls := findClass_of_methodNamed Bd.named
  have hnm := (name_of_methodNamed Bd.named Bd.method).1
  have X0 : Stand p l e ({ frames := 0, cells := 0, slots := 0, locals := 0 } : Room) s m #[(.ref a1)] below meth c s₁ [] 0 0 := Stand.of_body Bd
  have e0 : s₁.heap = h0 := by rw [← hh, Bd.state]; rfl
  have N0 := Fr.nil n0
  have pre0 : ∀ tq, Steps p.tables e below (s₁.setTop (mkF m 0 #[.val (.ref a1)] [])) tq → Steps p.tables e below (s₁.setTop (entryFrame m #[(.ref a1)] 1)) tq := fun tq k => castTop (ef_17 m a1) k
  obtain ⟨T1, X1, e1, st1⟩ := getF X0 hx hZ hown (host := "") (Or.inl (hw _ (List.mem_of_getElem? (i := 87) rfl))) Via.refl e0 F1 (g := (mkF m 1 #[.val (.ref a1)] [(.ref a1)])) rfl rfl (hb hby d17_1)
  obtain ⟨fs, hr, hrun, hended, hW, hsame⟩ := X1.leave (v := some (.int co)) (fun h => by rw [Bd.returns] at h; cases h)
  refine ⟨_, _, pre0 _ ?_, hrun, hended, _, _, rfl, ?_, ⟨_, rfl⟩, hW, hsame.mono (by decide) (by decide)⟩
  · show Steps p.tables e below (s₁.setTop (mkF m 0 #[.val (.ref a1)] [])) _
    refine XS.aloadN X0.here hx rfl (hb hby d17_0) rfl rfl ?_
    show Steps p.tables e below (s₁.setTop (mkF m 1 #[.val (.ref a1)] [(.ref a1)])) _
    refine st1 _ ?_
    show Steps p.tables e below (T1.setTop (mkF m 4 #[.val (.ref a1)] [(.int co)])) _
    exact retI X1 hx Bd.returns (hb hby d17_4) hr
  · show own_Qk Z a1 co h0 n0 _ T1.heap _
    rw [e1]
    exact ⟨rfl, N0, rfl⟩
def own_Qc (Z : State) (a1 a2 : Addr) (h0 : Heap) (n0 : Nat) (v : Option Value) (h : Heap) (L : List Loc) : Prop := v = none ∧ Fr n0 L ∧ Keep h0 h []
theorem d3_0 : decode prog_66_method_9_code 0 = .ok (.aload_n 1, 1) := by decide +kernel
theorem d3_1 : decode prog_66_method_9_code 1 = .ok (.ldc 42, 2) := by decide +kernel
theorem d3_3 : decode prog_66_method_9_code 3 = .ok (.invokestatic 43, 3) := by decide +kernel
theorem d3_6 : decode prog_66_method_9_code 6 = .ok (.pop, 1) := by decide +kernel
theorem d3_7 : decode prog_66_method_9_code 7 = .ok (.aload_n 1, 1) := by decide +kernel
theorem d3_8 : decode prog_66_method_9_code 8 = .ok (.invokevirtual 49, 3) := by decide +kernel
theorem d3_11 : decode prog_66_method_9_code 11 = .ok (.ifCond .eq 11, 3) := by decide +kernel
theorem d3_14 : decode prog_66_method_9_code 14 = .ok (.aload_n 0, 1) := by decide +kernel
theorem d3_15 : decode prog_66_method_9_code 15 = .ok (.aload_n 1, 1) := by decide +kernel
theorem d3_16 : decode prog_66_method_9_code 16 = .ok (.ldc 55, 2) := by decide +kernel
theorem d3_18 : decode prog_66_method_9_code 18 = .ok (.invokestatic 19, 3) := by decide +kernel
theorem d3_21 : decode prog_66_method_9_code 21 = .ok (.athrow, 1) := by decide +kernel
theorem d3_22 : decode prog_66_method_9_code 22 = .ok (.dload_n 2, 1) := by decide +kernel
theorem d3_23 : decode prog_66_method_9_code 23 = .ok (.dconst 0, 1) := by decide +kernel
theorem d3_24 : decode prog_66_method_9_code 24 = .ok (.dcmp .l, 1) := by decide +kernel
theorem d3_25 : decode prog_66_method_9_code 25 = .ok (.ifCond .le 10, 3) := by decide +kernel
theorem d3_28 : decode prog_66_method_9_code 28 = .ok (.dload_n 2, 1) := by decide +kernel
theorem d3_29 : decode prog_66_method_9_code 29 = .ok (.invokestatic 57, 3) := by decide +kernel
theorem d3_32 : decode prog_66_method_9_code 32 = .ok (.ifCond .eq 15, 3) := by decide +kernel
theorem d3_35 : decode prog_66_method_9_code 35 = .ok (.aload_n 0, 1) := by decide +kernel
theorem d3_36 : decode prog_66_method_9_code 36 = .ok (.aload_n 1, 1) := by decide +kernel
theorem d3_37 : decode prog_66_method_9_code 37 = .ok (.dload_n 2, 1) := by decide +kernel
theorem d3_43 : decode prog_66_method_9_code 43 = .ok (.invokestatic 19, 3) := by decide +kernel
theorem d3_46 : decode prog_66_method_9_code 46 = .ok (.athrow, 1) := by decide +kernel
theorem d3_47 : decode prog_66_method_9_code 47 = .ok (.iload 4, 2) := by decide +kernel
theorem d3_49 : decode prog_66_method_9_code 49 = .ok (.iconst 1, 1) := by decide +kernel
theorem d3_50 : decode prog_66_method_9_code 50 = .ok (.if_icmp .ge 16, 3) := by decide +kernel
theorem d3_53 : decode prog_66_method_9_code 53 = .ok (.aload_n 0, 1) := by decide +kernel
theorem d3_54 : decode prog_66_method_9_code 54 = .ok (.aload_n 1, 1) := by decide +kernel
theorem d3_55 : decode prog_66_method_9_code 55 = .ok (.iload 4, 2) := by decide +kernel
theorem d3_62 : decode prog_66_method_9_code 62 = .ok (.invokestatic 19, 3) := by decide +kernel
theorem d3_65 : decode prog_66_method_9_code 65 = .ok (.athrow, 1) := by decide +kernel
theorem d3_66 : decode prog_66_method_9_code 66 = .ok (.dload 5, 2) := by decide +kernel
theorem d3_68 : decode prog_66_method_9_code 68 = .ok (.dconst 0, 1) := by decide +kernel
theorem d3_69 : decode prog_66_method_9_code 69 = .ok (.dcmp .l, 1) := by decide +kernel
theorem d3_70 : decode prog_66_method_9_code 70 = .ok (.ifCond .lt 11, 3) := by decide +kernel
theorem d3_73 : decode prog_66_method_9_code 73 = .ok (.dload 5, 2) := by decide +kernel
theorem d3_75 : decode prog_66_method_9_code 75 = .ok (.invokestatic 57, 3) := by decide +kernel
theorem d3_78 : decode prog_66_method_9_code 78 = .ok (.ifCond .eq 16, 3) := by decide +kernel
theorem d3_81 : decode prog_66_method_9_code 81 = .ok (.aload_n 0, 1) := by decide +kernel
theorem d3_82 : decode prog_66_method_9_code 82 = .ok (.aload_n 1, 1) := by decide +kernel
theorem d3_83 : decode prog_66_method_9_code 83 = .ok (.dload 5, 2) := by decide +kernel
theorem d3_90 : decode prog_66_method_9_code 90 = .ok (.invokestatic 19, 3) := by decide +kernel
theorem d3_93 : decode prog_66_method_9_code 93 = .ok (.athrow, 1) := by decide +kernel
theorem d3_94 : decode prog_66_method_9_code 94 = .ok (.return_, 1) := by decide +kernel
theorem pn_3 : plainName "com/example/makespun/makespun/pool/Machine" = true := by first | (simp [plainName, overriddenIn]; done) | decide +kernel
theorem ef_3 (m : MethodId) (x0 : Addr) (x1 : Addr) (x2 : UInt64) (x3 : Int32) (x4 : UInt64) : entryFrame m #[(.ref x0), (.ref x1), (.double x2), (.int x3), (.double x4)] 7 = mkF m 0 #[.val (.ref x0), .val (.ref x1), .val (.double x2), .second, .val (.int x3), .val (.double x4), .second] [] := by first | (simp [entryFrame, mkF, argsToLocals, Value.category]; done) | rfl
set_option maxRecDepth 65536 in
set_option maxHeartbeats 40000000 in
theorem rmCA (l : Launch) (Z : State) (a0 : Array Value) (hw : ∀ d ∈ tables_1, d.before a0 Z = true) (ws : List Jvm.Cond) (a1 a2 : Addr) (co : Int32) (sb : Addr) (sk : ClassId) (w : Int32) (ci cA : Addr) (clA : Cell) (h0 : Heap) (n0 : Nat) (Z0 : n0 ≤ h0.size) (St : own_S Z h0 a2 sb sk) (J : own_J Z h0 w ci cA clA) (hco : ¬ co < (1 : Int32)) :
    MetFree l (⟨"com/example/makespun/makespun/pool/Machine", "checkAttributes", "(Ljava/lang/String;Ljava/lang/String;DID)V"⟩ : MethodName) (head1 (Jvm.Cond.code (⟨"com/example/makespun/makespun/pool/Machine", "checkAttributes", "(Ljava/lang/String;Ljava/lang/String;DID)V"⟩ : MethodName) prog_66_method_9_code 7 none :: ws) ({ frames := 5, cells := 2, slots := 20, locals := 68 } : Room)) (fun a U => a = #[(.ref a1), (.ref a2), (.double FP.dconst1), (.int co), (.double FP.dconst0)] ∧ Z.Warmed39 U.vm ∧ U.heap = h0 ∧ CHv Z own_EL U.vm h0) (fun _ _ _ _ _ => True) (fun _ U o U' => ∃ v L, o = .returned v ∧ own_Qc Z a1 a2 h0 n0 v U'.heap L ∧ CHr Z own_EL U.vm U.heap U'.vm U'.heap ∧ ReturnedEndW U o U' L ({ frames := 5, cells := 2, slots := 20, locals := 68 } : Room).cells ({ frames := 5, cells := 2, slots := 20, locals := 68 } : Room).slots) := by
  refine MetFree.of_bodySF (plainFor_of_name pn_3) hisR ?_
  intro p e s m args below meth c s₁ Bd hml0 hP hK
  obtain ⟨rfl, hZ, hh, hCH⟩ := hP
  have hx := Bd.exec
  have hby := Bd.bytes
  have hml : c.maxLocals = 7 := hml0
  have hown : s.vm.findClass "com/example/makespun/makespun/pool/Machine" = some m.cls := findClass_of_methodNamed Bd.named
  have hnm := (name_of_methodNamed Bd.named Bd.method).1
  have X0 : Stand p l e ({ frames := 5, cells := 2, slots := 20, locals := 68 } : Room) (s.setVm s.vm) m #[(.ref a1), (.ref a2), (.double FP.dconst1), (.int co), (.double FP.dconst0)] below meth c s₁ [] 0 0 := Stand.of_body Bd
  have e0 : s₁.heap = h0 := by rw [← hh, Bd.state]; rfl
  have N0 := Fr.nil n0
  have pre0 : ∀ tq, Steps p.tables e below (s₁.setTop (mkF m 0 #[.val (.ref a1), .val (.ref a2), .val (.double FP.dconst1), .second, .val (.int co), .val (.double FP.dconst0), .second] [])) tq → Steps p.tables e below (s₁.setTop (entryFrame m #[(.ref a1), (.ref a2), (.double FP.dconst1), (.int co), (.double FP.dconst0)] 7)) tq := fun tq k => castTop (ef_3 m a1 a2 FP.dconst1 co FP.dconst0) k
  have hS0 : s.Since s.vm 0 := (State.WarmedH.refl s).since 0
  have R0 := CHr.refl hCH
  have hEL := own_ew hw
  obtain ⟨xa1, T1, h1, n1, X1, e1, E1, hS1, hk1, hZ1, hown1, C1, li1, st1⟩ := ldcOH X0 hx hZ hown (hw _ (List.mem_of_getElem? (i := 21) rfl)) (own_sa hw) e0 hS0 (Nat.zero_le _) hEL R0.1 (g := (mkF m 1 #[.val (.ref a1), .val (.ref a2), .val (.double FP.dconst1), .second, .val (.int co), .val (.double FP.dconst0), .second] [(.ref a2)])) rfl (hb hby d3_1) (n := 16) (by decide) (by decide) (by decide) (by decide)
  have f2 := St.1.ext E1
  have z3 := Nat.le_trans Z0 E1.1
  have kp4 := (Keep.refl h0 []).ext E1
  have R5 := CHr.trans R0 C1
  have St' := St.ext E1
  have J' := J.ext E1
  obtain ⟨_, _, ⟨T6, L6, k6, n6⟩, -, X6, ⟨Lc6, hQ6, l6, y6, z6⟩, st6⟩ := Jvm.LawKit.callS X1 hx (y := (⟨"java/util/Objects", "requireNonNull", "(Ljava/lang/Object;Ljava/lang/String;)Ljava/lang/Object;"⟩ : MethodName)) hown1 (mvT hZ1 (hw _ (List.mem_of_getElem? (i := 22) rfl))) (mvT hZ1 (hw _ (List.mem_of_getElem? (i := 23) rfl))) (mvT hZ1 (hw _ (List.mem_of_getElem? (i := 24) rfl))) (mvT hZ1 (hw _ (List.mem_of_getElem? (i := 25) rfl))) (by decide) (backOf (W := 0) (rmQ l Z a0 hw [] a2 xa1 h1 n0 z3) hZ1 (hw _ (List.mem_of_getElem? (i := 25) rfl)) (hw _ (List.mem_of_getElem? (i := 24) rfl)) (by decide) (by decide)) (g := (mkF m 3 #[.val (.ref a1), .val (.ref a2), .val (.double FP.dconst1), .second, .val (.int co), .val (.double FP.dconst0), .second] [(.ref xa1), (.ref a2)])) rfl (by rw [hml]; rfl) (argsL := [(.ref a2), (.ref xa1)]) (rest := []) (lenOf pd_7 rfl) rfl (by show 2 * 0 + _ ≤ _; exact Nat.le_of_eq rfl) (hb hby d3_3) (fun _ _ => ⟨rfl, e1, (by decide : 2 + 0 ≤ _), (by decide : 20 + 0 ≤ _)⟩)
  dsimp only [Pt.U, Pt.locs, Pt.cells, Pt.slots] at X6 l6 y6 z6 st6 hQ6
  subst l6 y6 z6
  obtain ⟨rfl, N6q, e6⟩ := hQ6
  have N6 := Fr.app N0 N6q
  obtain ⟨cq7, kq7, q7a, q7b, q7c⟩ := isOf hZ1 e6 f2
  obtain ⟨_, _, ⟨T7, L7, k7, n7⟩, -, X7, ⟨Lc7, hQ7, l7, y7, z7⟩, st7⟩ := X6.virtualBack hx (y := (⟨"java/lang/String", "isBlank", "()Z"⟩ : MethodName)) (z := (⟨"java/lang/String", "isBlank", "()Z"⟩ : MethodName)) hown1 (mvT hZ1 (hw _ (List.mem_of_getElem? (i := 26) rfl))) (mvT hZ1 (hw _ (List.mem_of_getElem? (i := 27) rfl))) (notFace_of_selects (args := #[]) (mvT hZ1 (hw _ (List.mem_of_getElem? (i := 29) rfl)))) (mvT hZ1 (hw _ (List.mem_of_getElem? (i := 29) rfl))) (mvT hZ1 (hw _ (List.mem_of_getElem? (i := 28) rfl))) (by decide) (backOf (W := 0) (rmB l Z a0 hw [] a2 sb sk w ci cA clA h1 n0 z3 (St') (J')) hZ1 (hw _ (List.mem_of_getElem? (i := 30) rfl)) (hw _ (List.mem_of_getElem? (i := 4) rfl)) (by decide) (by decide)) q7a q7c (g := (mkF m 8 #[.val (.ref a1), .val (.ref a2), .val (.double FP.dconst1), .second, .val (.int co), .val (.double FP.dconst0), .second] [(.ref a2)])) rfl (by rw [hml]; rfl) (Steps.refl _) (argsL := []) (rest := []) (lenOf pd_4 rfl) rfl (by show 2 * 0 + _ ≤ _; exact Nat.le_of_eq rfl) (hb hby d3_8) (fun _ _ => ⟨rfl, e6, (by decide : 2 + 0 ≤ _), (by decide : 20 + 0 ≤ _)⟩)
  dsimp only [Pt.U, Pt.locs, Pt.cells, Pt.slots] at X7 l7 y7 z7 st7 hQ7
  subst l7 y7 z7
  obtain ⟨rfl, N7q, e7⟩ := hQ7
  have N7 := Fr.app N6 N7q
  obtain ⟨_, _, ⟨T8, L8, k8, n8⟩, -, X8, ⟨Lc8, hQ8, l8, y8, z8⟩, st8⟩ := Jvm.LawKit.callS X7 hx (y := (⟨"java/lang/Double", "isInfinite", "(D)Z"⟩ : MethodName)) hown1 (mvT hZ1 (hw _ (List.mem_of_getElem? (i := 74) rfl))) (mvT hZ1 (hw _ (List.mem_of_getElem? (i := 75) rfl))) (mvT hZ1 (hw _ (List.mem_of_getElem? (i := 76) rfl))) (mvT hZ1 (hw _ (List.mem_of_getElem? (i := 77) rfl))) (by decide) (backOf (W := 0) (rmF1 l Z a0 hw []  h1 n0 z3) hZ1 (hw _ (List.mem_of_getElem? (i := 77) rfl)) (hw _ (List.mem_of_getElem? (i := 76) rfl)) (by decide) (by decide)) (g := (mkF m 29 #[.val (.ref a1), .val (.ref a2), .val (.double FP.dconst1), .second, .val (.int co), .val (.double FP.dconst0), .second] [(.double FP.dconst1)])) rfl (by rw [hml]; rfl) (argsL := [(.double FP.dconst1)]) (rest := []) (lenOf pd_9 rfl) rfl (by show 2 * 0 + _ ≤ _; exact Nat.le_of_eq rfl) (hb hby d3_29) (fun _ _ => ⟨rfl, e7, (by decide : 2 + 0 ≤ _), (by decide : 20 + 0 ≤ _)⟩)
  dsimp only [Pt.U, Pt.locs, Pt.cells, Pt.slots] at X8 l8 y8 z8 st8 hQ8
  subst l8 y8 z8
  obtain ⟨rfl, N8q, e8⟩ := hQ8
  have N8 := Fr.app N7 N8q
  obtain ⟨_, _, ⟨T9, L9, k9, n9⟩, -, X9, ⟨Lc9, hQ9, l9, y9, z9⟩, st9⟩ := Jvm.LawKit.callS X8 hx (y := (⟨"java/lang/Double", "isInfinite", "(D)Z"⟩ : MethodName)) hown1 (mvT hZ1 (hw _ (List.mem_of_getElem? (i := 74) rfl))) (mvT hZ1 (hw _ (List.mem_of_getElem? (i := 75) rfl))) (mvT hZ1 (hw _ (List.mem_of_getElem? (i := 76) rfl))) (mvT hZ1 (hw _ (List.mem_of_getElem? (i := 77) rfl))) (by decide) (backOf (W := 0) (rmF0 l Z a0 hw []  h1 n0 z3) hZ1 (hw _ (List.mem_of_getElem? (i := 77) rfl)) (hw _ (List.mem_of_getElem? (i := 76) rfl)) (by decide) (by decide)) (g := (mkF m 75 #[.val (.ref a1), .val (.ref a2), .val (.double FP.dconst1), .second, .val (.int co), .val (.double FP.dconst0), .second] [(.double FP.dconst0)])) rfl (by rw [hml]; rfl) (argsL := [(.double FP.dconst0)]) (rest := []) (lenOf pd_9 rfl) rfl (by show 2 * 0 + _ ≤ _; exact Nat.le_of_eq rfl) (hb hby d3_75) (fun _ _ => ⟨rfl, e8, (by decide : 2 + 0 ≤ _), (by decide : 20 + 0 ≤ _)⟩)
  dsimp only [Pt.U, Pt.locs, Pt.cells, Pt.slots] at X9 l9 y9 z9 st9 hQ9
  subst l9 y9 z9
  obtain ⟨rfl, N9q, e9⟩ := hQ9
  have N9 := Fr.app N8 N9q
  obtain ⟨fs, hr, hrun, hended, hEnd⟩ := X9.leaveW (s := s) hS1 (by rw [e9]; exact hk1) (v := none) (fun _ => rfl)
  refine ⟨_, _, pre0 _ ?_, hrun, hended, _, _, rfl, ?_, ?_, hEnd.1, hEnd.2.1, hEnd.2.2.1, hEnd.2.2.2.mono (by decide) (by decide)⟩
  · show Steps p.tables e below (s₁.setTop (mkF m 0 #[.val (.ref a1), .val (.ref a2), .val (.double FP.dconst1), .second, .val (.int co), .val (.double FP.dconst0), .second] [])) _
    refine XS.aloadN X0.here hx rfl (hb hby d3_0) rfl rfl ?_
    show Steps p.tables e below (s₁.setTop (mkF m 1 #[.val (.ref a1), .val (.ref a2), .val (.double FP.dconst1), .second, .val (.int co), .val (.double FP.dconst0), .second] [(.ref a2)])) _
    refine st1 _ ?_
    show Steps p.tables e below (T1.setTop (mkF m 3 #[.val (.ref a1), .val (.ref a2), .val (.double FP.dconst1), .second, .val (.int co), .val (.double FP.dconst0), .second] [(.ref xa1), (.ref a2)])) _
    refine st6 _ ?_
    show Steps p.tables e below (T6.setTop (mkF m 6 #[.val (.ref a1), .val (.ref a2), .val (.double FP.dconst1), .second, .val (.int co), .val (.double FP.dconst0), .second] [(.ref a2)])) _
    refine XS.pop X6.here hx rfl (hb hby d3_6) rfl rfl ?_
    show Steps p.tables e below (T6.setTop (mkF m 7 #[.val (.ref a1), .val (.ref a2), .val (.double FP.dconst1), .second, .val (.int co), .val (.double FP.dconst0), .second] [])) _
    refine XS.aloadN X6.here hx rfl (hb hby d3_7) rfl rfl ?_
    show Steps p.tables e below (T6.setTop (mkF m 8 #[.val (.ref a1), .val (.ref a2), .val (.double FP.dconst1), .second, .val (.int co), .val (.double FP.dconst0), .second] [(.ref a2)])) _
    refine st7.trans ?_
    show Steps p.tables e below (T7.setTop (mkF m 11 #[.val (.ref a1), .val (.ref a2), .val (.double FP.dconst1), .second, .val (.int co), .val (.double FP.dconst0), .second] [(.int (0 : Int32))])) _
    refine XS.ifYes X7.here hx rfl (pc0 := 11) (pc' := 22) rfl (hb hby d3_11) rfl ((if0 _ _).trans (teq (by decide : ((0 : Int32) = (0 : Int32)))).1) (by decide) (by decide) ?_
    show Steps p.tables e below (T7.setTop (mkF m 22 #[.val (.ref a1), .val (.ref a2), .val (.double FP.dconst1), .second, .val (.int co), .val (.double FP.dconst0), .second] [])) _
    refine XS.dloadN X7.here hx rfl (hb hby d3_22) rfl ?_
    show Steps p.tables e below (T7.setTop (mkF m 23 #[.val (.ref a1), .val (.ref a2), .val (.double FP.dconst1), .second, .val (.int co), .val (.double FP.dconst0), .second] [(.double FP.dconst1)])) _
    refine XS.dconst0 X7.here hx rfl (hb hby d3_23) rfl ?_
    show Steps p.tables e below (T7.setTop (mkF m 24 #[.val (.ref a1), .val (.ref a2), .val (.double FP.dconst1), .second, .val (.int co), .val (.double FP.dconst0), .second] [(.double FP.dconst0), (.double FP.dconst1)])) _
    refine XS.dcmpS X7.here hx rfl (hb hby d3_24) rfl (v := (1 : Int32)) own_c10 ?_
    show Steps p.tables e below (T7.setTop (mkF m 25 #[.val (.ref a1), .val (.ref a2), .val (.double FP.dconst1), .second, .val (.int co), .val (.double FP.dconst0), .second] [(.int (1 : Int32))])) _
    refine XS.ifNo X7.here hx rfl (hb hby d3_25) rfl ((if0 _ _).trans (tlt (by decide : ((0 : Int32) < (1 : Int32)))).2.2.2) ?_
    show Steps p.tables e below (T7.setTop (mkF m 28 #[.val (.ref a1), .val (.ref a2), .val (.double FP.dconst1), .second, .val (.int co), .val (.double FP.dconst0), .second] [])) _
    refine XS.dloadN X7.here hx rfl (hb hby d3_28) rfl ?_
    show Steps p.tables e below (T7.setTop (mkF m 29 #[.val (.ref a1), .val (.ref a2), .val (.double FP.dconst1), .second, .val (.int co), .val (.double FP.dconst0), .second] [(.double FP.dconst1)])) _
    refine st8 _ ?_
    show Steps p.tables e below (T8.setTop (mkF m 32 #[.val (.ref a1), .val (.ref a2), .val (.double FP.dconst1), .second, .val (.int co), .val (.double FP.dconst0), .second] [(.int (0 : Int32))])) _
    refine XS.ifYes X8.here hx rfl (pc0 := 32) (pc' := 47) rfl (hb hby d3_32) rfl ((if0 _ _).trans (teq (by decide : ((0 : Int32) = (0 : Int32)))).1) (by decide) (by decide) ?_
    show Steps p.tables e below (T8.setTop (mkF m 47 #[.val (.ref a1), .val (.ref a2), .val (.double FP.dconst1), .second, .val (.int co), .val (.double FP.dconst0), .second] [])) _
    refine XS.iload X8.here hx rfl (hb hby d3_47) rfl ?_
    show Steps p.tables e below (T8.setTop (mkF m 49 #[.val (.ref a1), .val (.ref a2), .val (.double FP.dconst1), .second, .val (.int co), .val (.double FP.dconst0), .second] [(.int co)])) _
    refine XS.iconst X8.here hx rfl (hb hby d3_49) ?_
    show Steps p.tables e below (T8.setTop (mkF m 50 #[.val (.ref a1), .val (.ref a2), .val (.double FP.dconst1), .second, .val (.int co), .val (.double FP.dconst0), .second] [(.int (1 : Int32)), (.int co)])) _
    refine XS.icmpYes X8.here hx rfl (pc0 := 50) (pc' := 66) rfl (hb hby d3_50) rfl (flt hco).2.1 (by decide) (by decide) ?_
    show Steps p.tables e below (T8.setTop (mkF m 66 #[.val (.ref a1), .val (.ref a2), .val (.double FP.dconst1), .second, .val (.int co), .val (.double FP.dconst0), .second] [])) _
    refine XS.dload X8.here hx rfl (hb hby d3_66) rfl ?_
    show Steps p.tables e below (T8.setTop (mkF m 68 #[.val (.ref a1), .val (.ref a2), .val (.double FP.dconst1), .second, .val (.int co), .val (.double FP.dconst0), .second] [(.double FP.dconst0)])) _
    refine XS.dconst0 X8.here hx rfl (hb hby d3_68) rfl ?_
    show Steps p.tables e below (T8.setTop (mkF m 69 #[.val (.ref a1), .val (.ref a2), .val (.double FP.dconst1), .second, .val (.int co), .val (.double FP.dconst0), .second] [(.double FP.dconst0), (.double FP.dconst0)])) _
    refine XS.dcmpS X8.here hx rfl (hb hby d3_69) rfl (v := (0 : Int32)) own_c00 ?_
    show Steps p.tables e below (T8.setTop (mkF m 70 #[.val (.ref a1), .val (.ref a2), .val (.double FP.dconst1), .second, .val (.int co), .val (.double FP.dconst0), .second] [(.int (0 : Int32))])) _
    refine XS.ifNo X8.here hx rfl (hb hby d3_70) rfl ((if0 _ _).trans (flt (by decide : ¬ ((0 : Int32) < (0 : Int32)))).1) ?_
    show Steps p.tables e below (T8.setTop (mkF m 73 #[.val (.ref a1), .val (.ref a2), .val (.double FP.dconst1), .second, .val (.int co), .val (.double FP.dconst0), .second] [])) _
    refine XS.dload X8.here hx rfl (hb hby d3_73) rfl ?_
    show Steps p.tables e below (T8.setTop (mkF m 75 #[.val (.ref a1), .val (.ref a2), .val (.double FP.dconst1), .second, .val (.int co), .val (.double FP.dconst0), .second] [(.double FP.dconst0)])) _
    refine st9 _ ?_
    show Steps p.tables e below (T9.setTop (mkF m 78 #[.val (.ref a1), .val (.ref a2), .val (.double FP.dconst1), .second, .val (.int co), .val (.double FP.dconst0), .second] [(.int (0 : Int32))])) _
    refine XS.ifYes X9.here hx rfl (pc0 := 78) (pc' := 94) rfl (hb hby d3_78) rfl ((if0 _ _).trans (teq (by decide : ((0 : Int32) = (0 : Int32)))).1) (by decide) (by decide) ?_
    show Steps p.tables e below (T9.setTop (mkF m 94 #[.val (.ref a1), .val (.ref a2), .val (.double FP.dconst1), .second, .val (.int co), .val (.double FP.dconst0), .second] [])) _
    exact X9.returnOut hx Bd.returns (hb hby d3_94) hr
  · show own_Qc Z a1 a2 h0 n0 _ T9.heap _
    rw [e9]
    exact ⟨rfl, N9, kp4⟩
  · show CHr Z own_EL s.vm s.heap T9.vm T9.heap
    rw [hh, e9]
    exact CHr.trans R5 (CHv.at X9 hZ1 hEL R5.1)
theorem pd_10 : parseMethodDescriptor "(Ljava/lang/String;Ljava/lang/String;DID)V" = some ⟨[(.object "java/lang/String"), (.object "java/lang/String"), .double, .int, .double], none⟩ := by decide +kernel
def own_Qm (Z : State) (a1 : Addr) (co : Int32) (h0 : Heap) (n0 : Nat) (v : Option Value) (h : Heap) (L : List Loc) : Prop := v = none ∧ Fr n0 L ∧ Keep h0 h [a1] ∧ Exa Z h a1 "com/example/makespun/makespun/pool/Machine" ∧ Fld Z h a1 "com/example/makespun/makespun/pool/Machine" "cores" "I" (.int co)
theorem d1_0 : decode prog_66_method_1_code 0 = .ok (.aload_n 0, 1) := by decide +kernel
theorem d1_1 : decode prog_66_method_1_code 1 = .ok (.invokespecial 1, 3) := by decide +kernel
theorem d1_4 : decode prog_66_method_1_code 4 = .ok (.ldc 9, 2) := by decide +kernel
theorem d1_6 : decode prog_66_method_1_code 6 = .ok (.aload_n 1, 1) := by decide +kernel
theorem d1_7 : decode prog_66_method_1_code 7 = .ok (.dload_n 2, 1) := by decide +kernel
theorem d1_8 : decode prog_66_method_1_code 8 = .ok (.iload 4, 2) := by decide +kernel
theorem d1_10 : decode prog_66_method_1_code 10 = .ok (.dload 5, 2) := by decide +kernel
theorem d1_12 : decode prog_66_method_1_code 12 = .ok (.invokestatic 11, 3) := by decide +kernel
theorem d1_15 : decode prog_66_method_1_code 15 = .ok (.lload 7, 2) := by decide +kernel
theorem d1_17 : decode prog_66_method_1_code 17 = .ok (.lconst 0, 1) := by decide +kernel
theorem d1_18 : decode prog_66_method_1_code 18 = .ok (.lcmp, 1) := by decide +kernel
theorem d1_19 : decode prog_66_method_1_code 19 = .ok (.ifCond .ge 17, 3) := by decide +kernel
theorem d1_22 : decode prog_66_method_1_code 22 = .ok (.ldc 9, 2) := by decide +kernel
theorem d1_24 : decode prog_66_method_1_code 24 = .ok (.aload_n 1, 1) := by decide +kernel
theorem d1_25 : decode prog_66_method_1_code 25 = .ok (.lload 7, 2) := by decide +kernel
theorem d1_32 : decode prog_66_method_1_code 32 = .ok (.invokestatic 19, 3) := by decide +kernel
theorem d1_35 : decode prog_66_method_1_code 35 = .ok (.athrow, 1) := by decide +kernel
theorem d1_36 : decode prog_66_method_1_code 36 = .ok (.aload_n 0, 1) := by decide +kernel
theorem d1_37 : decode prog_66_method_1_code 37 = .ok (.aload_n 1, 1) := by decide +kernel
theorem d1_38 : decode prog_66_method_1_code 38 = .ok (.putfield 23, 3) := by decide +kernel
theorem d1_41 : decode prog_66_method_1_code 41 = .ok (.aload_n 0, 1) := by decide +kernel
theorem d1_42 : decode prog_66_method_1_code 42 = .ok (.dload_n 2, 1) := by decide +kernel
theorem d1_43 : decode prog_66_method_1_code 43 = .ok (.putfield 27, 3) := by decide +kernel
theorem d1_46 : decode prog_66_method_1_code 46 = .ok (.aload_n 0, 1) := by decide +kernel
theorem d1_47 : decode prog_66_method_1_code 47 = .ok (.iload 4, 2) := by decide +kernel
theorem d1_49 : decode prog_66_method_1_code 49 = .ok (.putfield 31, 3) := by decide +kernel
theorem d1_52 : decode prog_66_method_1_code 52 = .ok (.aload_n 0, 1) := by decide +kernel
theorem d1_53 : decode prog_66_method_1_code 53 = .ok (.dload 5, 2) := by decide +kernel
theorem d1_55 : decode prog_66_method_1_code 55 = .ok (.putfield 35, 3) := by decide +kernel
theorem d1_58 : decode prog_66_method_1_code 58 = .ok (.aload_n 0, 1) := by decide +kernel
theorem d1_59 : decode prog_66_method_1_code 59 = .ok (.lload 7, 2) := by decide +kernel
theorem d1_61 : decode prog_66_method_1_code 61 = .ok (.putfield 38, 3) := by decide +kernel
theorem d1_64 : decode prog_66_method_1_code 64 = .ok (.return_, 1) := by decide +kernel
theorem pn_1 : plainName "com/example/makespun/makespun/pool/Machine" = true := by first | (simp [plainName, overriddenIn]; done) | decide +kernel
theorem ef_1 (m : MethodId) (x0 : Addr) (x1 : Addr) (x2 : UInt64) (x3 : Int32) (x4 : UInt64) (x5 : Int64) : entryFrame m #[(.ref x0), (.ref x1), (.double x2), (.int x3), (.double x4), (.long x5)] 9 = mkF m 0 #[.val (.ref x0), .val (.ref x1), .val (.double x2), .second, .val (.int x3), .val (.double x4), .second, .val (.long x5), .second] [] := by first | (simp [entryFrame, mkF, argsToLocals, Value.category]; done) | rfl
set_option maxRecDepth 65536 in
set_option maxHeartbeats 40000000 in
theorem rmM (l : Launch) (Z : State) (a0 : Array Value) (hw : ∀ d ∈ tables_1, d.before a0 Z = true) (ws : List Jvm.Cond) (a1 a2 : Addr) (co : Int32) (sb : Addr) (sk : ClassId) (w : Int32) (ci cA : Addr) (clA : Cell) (h0 : Heap) (n0 : Nat) (Z0 : n0 ≤ h0.size) (E_a1 : Exa Z h0 a1 "com/example/makespun/makespun/pool/Machine") (F_name : Fld Z h0 a1 "com/example/makespun/makespun/pool/Machine" "name" "Ljava/lang/String;" .null) (F_speed : Fld Z h0 a1 "com/example/makespun/makespun/pool/Machine" "speed" "D" (.double (0 : UInt64))) (F_cores : Fld Z h0 a1 "com/example/makespun/makespun/pool/Machine" "cores" "I" (.int (0 : Int32))) (F_pricePerHour : Fld Z h0 a1 "com/example/makespun/makespun/pool/Machine" "pricePerHour" "D" (.double (0 : UInt64))) (F_storageBytes : Fld Z h0 a1 "com/example/makespun/makespun/pool/Machine" "storageBytes" "J" (.long (0 : Int64))) (g_a1 : n0 ≤ a1) (St : own_S Z h0 a2 sb sk) (J : own_J Z h0 w ci cA clA) (hco : ¬ co < (1 : Int32)) :
    MetFree l (⟨"com/example/makespun/makespun/pool/Machine", "<init>", "(Ljava/lang/String;DIDJ)V"⟩ : MethodName) (head1 (Jvm.Cond.code (⟨"com/example/makespun/makespun/pool/Machine", "<init>", "(Ljava/lang/String;DIDJ)V"⟩ : MethodName) prog_66_method_1_code 9 none :: ws) ({ frames := 6, cells := 4, slots := 52, locals := 86 } : Room)) (fun a U => a = #[(.ref a1), (.ref a2), (.double FP.dconst1), (.int co), (.double FP.dconst0), (.long (0 : Int64))] ∧ Z.Warmed39 U.vm ∧ U.heap = h0 ∧ CHv Z own_EL U.vm h0) (fun _ _ _ _ _ => True) (fun _ U o U' => ∃ v L, o = .returned v ∧ own_Qm Z a1 co h0 n0 v U'.heap L ∧ CHr Z own_EL U.vm U.heap U'.vm U'.heap ∧ ReturnedEndW U o U' L ({ frames := 6, cells := 4, slots := 52, locals := 86 } : Room).cells ({ frames := 6, cells := 4, slots := 52, locals := 86 } : Room).slots) := by
  refine MetFree.of_bodySF (plainFor_of_name pn_1) hisR ?_
  intro p e s m args below meth c s₁ Bd hml0 hP hK
  obtain ⟨rfl, hZ, hh, hCH⟩ := hP
  have hx := Bd.exec
  have hby := Bd.bytes
  have hml : c.maxLocals = 9 := hml0
  have hown : s.vm.findClass "com/example/makespun/makespun/pool/Machine" = some m.cls := findClass_of_methodNamed Bd.named
  have hnm := (name_of_methodNamed Bd.named Bd.method).1
  have X0 : Stand p l e ({ frames := 6, cells := 4, slots := 52, locals := 86 } : Room) (s.setVm s.vm) m #[(.ref a1), (.ref a2), (.double FP.dconst1), (.int co), (.double FP.dconst0), (.long (0 : Int64))] below meth c s₁ [] 0 0 := Stand.of_body Bd
  have e0 : s₁.heap = h0 := by rw [← hh, Bd.state]; rfl
  have N0 := Fr.nil n0
  have pre0 : ∀ tq, Steps p.tables e below (s₁.setTop (mkF m 0 #[.val (.ref a1), .val (.ref a2), .val (.double FP.dconst1), .second, .val (.int co), .val (.double FP.dconst0), .second, .val (.long (0 : Int64)), .second] [])) tq → Steps p.tables e below (s₁.setTop (entryFrame m #[(.ref a1), (.ref a2), (.double FP.dconst1), (.int co), (.double FP.dconst0), (.long (0 : Int64))] 9)) tq := fun tq k => castTop (ef_1 m a1 a2 FP.dconst1 co FP.dconst0 (0 : Int64)) k
  have hS0 : s.Since s.vm 0 := (State.WarmedH.refl s).since 0
  have R0 := CHr.refl hCH
  have hEL := own_ew hw
  obtain ⟨T1, X1, e1, st1⟩ := initO X0 hx hZ hown (hw _ (List.mem_of_getElem? (i := 14) rfl)) (hw _ (List.mem_of_getElem? (i := 15) rfl)) (hw _ (List.mem_of_getElem? (i := 16) rfl)) e0 (g := (mkF m 1 #[.val (.ref a1), .val (.ref a2), .val (.double FP.dconst1), .second, .val (.int co), .val (.double FP.dconst0), .second, .val (.long (0 : Int64)), .second] [(.ref a1)])) rfl (by rw [hml]; rfl) rfl (hb hby d1_1) (by decide) (W := 0) (by show 2 * 0 + _ ≤ _; exact Nat.le_of_eq rfl) (by decide)
  obtain ⟨xa2, T2, h2, n2, X2, e2, E2, hS2, hk2, hZ2, hown2, C2, li2, st2⟩ := ldcOH X1 hx hZ hown (hw _ (List.mem_of_getElem? (i := 17) rfl)) (own_sa hw) e1 hS0 (Nat.zero_le _) hEL R0.1 (g := (mkF m 4 #[.val (.ref a1), .val (.ref a2), .val (.double FP.dconst1), .second, .val (.int co), .val (.double FP.dconst0), .second, .val (.long (0 : Int64)), .second] [])) rfl (hb hby d1_4) (n := 28) (by decide) (by decide) (by decide) (by decide)
  have f3 := E_a1.ext E2
  have f4 := F_name.ext E2
  have f5 := F_speed.ext E2
  have f6 := F_cores.ext E2
  have f7 := F_pricePerHour.ext E2
  have f8 := F_storageBytes.ext E2
  have z9 := Nat.le_trans Z0 E2.1
  have kp10 := (Keep.refl h0 [a1]).ext E2
  have R11 := CHr.trans R0 C2
  have St' := St.ext E2
  have J' := J.ext E2
  obtain ⟨_, _, ⟨T12, L12, k12, n12⟩, -, X12, hT12, hG12, ⟨Lc12, hQ12, l12, y12, z12, C12⟩, st12⟩ := callSS X2 hx (y := (⟨"com/example/makespun/makespun/pool/Machine", "checkAttributes", "(Ljava/lang/String;Ljava/lang/String;DID)V"⟩ : MethodName)) hown2 (mvT hZ2 (hw _ (List.mem_of_getElem? (i := 18) rfl))) (mvT hZ2 (hw _ (List.mem_of_getElem? (i := 19) rfl))) (mvT hZ2 (hw _ (List.mem_of_getElem? (i := 2) rfl))) (mvT hZ2 (hw _ (List.mem_of_getElem? (i := 20) rfl))) (by decide) (backOfSH (W := 0) (rmCA l Z a0 hw [] xa2 a2 co sb sk w ci cA clA h2 n0 z9 St' J' hco) hZ2 (hw _ (List.mem_of_getElem? (i := 20) rfl)) (hw _ (List.mem_of_getElem? (i := 2) rfl)) (by decide) (by decide) hEL R11.1) (g := (mkF m 12 #[.val (.ref a1), .val (.ref a2), .val (.double FP.dconst1), .second, .val (.int co), .val (.double FP.dconst0), .second, .val (.long (0 : Int64)), .second] [(.double FP.dconst0), (.int co), (.double FP.dconst1), (.ref a2), (.ref xa2)])) rfl (by rw [hml]; rfl) (argsL := [(.ref xa2), (.ref a2), (.double FP.dconst1), (.int co), (.double FP.dconst0)]) (rest := []) (lenOf pd_10 rfl) rfl (by show 2 * 0 + _ ≤ _; exact Nat.le_of_eq rfl) (hb hby d1_12) (fun _ _ => ⟨rfl, e2, (by decide : 2 + 2 ≤ _), (by decide : 32 + 20 ≤ _)⟩)
  dsimp only [Pt.U, Pt.locs, Pt.cells, Pt.slots] at X12 l12 y12 z12 st12 hQ12 hT12 hG12 C12
  subst l12 y12 z12
  have hS12 := foldS (T := T2) hS2 (by rw [e2]; exact hk2) hT12 hG12
  have hZ12 : Z.Warmed39 T12.vm := State.Warmed39.trans (t := s.setVm T2.vm) hZ2 hT12.1
  have hown12 : T12.vm.findClass "com/example/makespun/makespun/pool/Machine" = some m.cls := by rw [hT12.1.alike.findClass]; exact hown2
  have X12r : Stand p l e _ (s.setVm T12.vm) m _ below meth c T12 _ _ _ := X12
  obtain ⟨rfl, N12q, K12⟩ := hQ12
  have N12 := Fr.app N0 N12q
  have R13 := CHr.trans R11 C12
  have f14 := f3.keep K12
  have f15 := f4.keep K12 nin0
  have f16 := f5.keep K12 nin0
  have f17 := f6.keep K12 nin0
  have f18 := f7.keep K12 nin0
  have f19 := f8.keep K12 nin0
  have z20 := Nat.le_trans z9 K12.1
  have kp21 := Keep.trans kp10 K12 all0
  obtain ⟨T22, h22, X22, e22, W22, st22⟩ := putF X12r hx hZ12 hown12 (host := "") (Or.inl (hw _ (List.mem_of_getElem? (i := 83) rfl))) Via.refl rfl f15 f14 (Or.inr ⟨(hw _ (List.mem_of_getElem? (i := 84) rfl)), rfl, hnm⟩) (hw _ (List.mem_of_getElem? (i := 1) rfl)) (ty := (.object "java/lang/String")) (by decide) rfl rfl (g := (mkF m 38 #[.val (.ref a1), .val (.ref a2), .val (.double FP.dconst1), .second, .val (.int co), .val (.double FP.dconst0), .second, .val (.long (0 : Int64)), .second] [(.ref a2), (.ref a1)])) rfl rfl (hb hby d1_38)
  have R23 := CHr.trans R13 (CHr.wr W22 (Safe.exa hZ12.alike f14 (by decide) (by decide)) R13.1)
  have hk24 := Nat.le_trans (Nat.le_refl _) (Keep.of_wr W22).1
  have f25 := f14.wr W22
  have f26 := f15.same W22
  have f27 := f16.other W22 (Or.inr (slot_ne (Or.inr (hw _ (List.mem_of_getElem? (i := 86) rfl))) (Or.inr (hw _ (List.mem_of_getElem? (i := 84) rfl))) (by decide) (t := .double) (t' := (.object "java/lang/String")) (by decide) (by decide)))
  have f28 := f17.other W22 (Or.inr (slot_ne (Or.inr (hw _ (List.mem_of_getElem? (i := 88) rfl))) (Or.inr (hw _ (List.mem_of_getElem? (i := 84) rfl))) (by decide) (t := .int) (t' := (.object "java/lang/String")) (by decide) (by decide)))
  have f29 := f18.other W22 (Or.inr (slot_ne (Or.inr (hw _ (List.mem_of_getElem? (i := 90) rfl))) (Or.inr (hw _ (List.mem_of_getElem? (i := 84) rfl))) (by decide) (t := .double) (t' := (.object "java/lang/String")) (by decide) (by decide)))
  have f30 := f19.other W22 (Or.inr (slot_ne (Or.inr (hw _ (List.mem_of_getElem? (i := 92) rfl))) (Or.inr (hw _ (List.mem_of_getElem? (i := 84) rfl))) (by decide) (t := .long) (t' := (.object "java/lang/String")) (by decide) (by decide)))
  have kp31 := kp21.wr W22 (Or.inl (List.mem_of_getElem? (i := 0) rfl))
  have z32 := Nat.le_trans z20 (Keep.of_wr W22).1
  have N33 := Fr.snoc X22 N12 g_a1
  obtain ⟨T34, h34, X34, e34, W34, st34⟩ := putF X22 hx hZ12 hown12 (host := "") (Or.inl (hw _ (List.mem_of_getElem? (i := 85) rfl))) Via.refl e22 f27 f25 (Or.inr ⟨(hw _ (List.mem_of_getElem? (i := 86) rfl)), rfl, hnm⟩) (hw _ (List.mem_of_getElem? (i := 1) rfl)) (ty := .double) (by decide) rfl rfl (g := (mkF m 43 #[.val (.ref a1), .val (.ref a2), .val (.double FP.dconst1), .second, .val (.int co), .val (.double FP.dconst0), .second, .val (.long (0 : Int64)), .second] [(.double FP.dconst1), (.ref a1)])) rfl rfl (hb hby d1_43)
  have R35 := CHr.trans R23 (CHr.wr W34 (Safe.exa hZ12.alike f25 (by decide) (by decide)) R23.1)
  have hk36 := Nat.le_trans hk24 (Keep.of_wr W34).1
  have f37 := f25.wr W34
  have f38 := f26.other W34 (Or.inr (slot_ne (Or.inr (hw _ (List.mem_of_getElem? (i := 84) rfl))) (Or.inr (hw _ (List.mem_of_getElem? (i := 86) rfl))) (by decide) (t := (.object "java/lang/String")) (t' := .double) (by decide) (by decide)))
  have f39 := f27.same W34
  have f40 := f28.other W34 (Or.inr (slot_ne (Or.inr (hw _ (List.mem_of_getElem? (i := 88) rfl))) (Or.inr (hw _ (List.mem_of_getElem? (i := 86) rfl))) (by decide) (t := .int) (t' := .double) (by decide) (by decide)))
  have f41 := f29.other W34 (Or.inr (slot_ne (Or.inr (hw _ (List.mem_of_getElem? (i := 90) rfl))) (Or.inr (hw _ (List.mem_of_getElem? (i := 86) rfl))) (by decide) (t := .double) (t' := .double) (by decide) (by decide)))
  have f42 := f30.other W34 (Or.inr (slot_ne (Or.inr (hw _ (List.mem_of_getElem? (i := 92) rfl))) (Or.inr (hw _ (List.mem_of_getElem? (i := 86) rfl))) (by decide) (t := .long) (t' := .double) (by decide) (by decide)))
  have kp43 := kp31.wr W34 (Or.inl (List.mem_of_getElem? (i := 0) rfl))
  have z44 := Nat.le_trans z32 (Keep.of_wr W34).1
  have N45 := Fr.snoc X34 N33 g_a1
  obtain ⟨T46, h46, X46, e46, W46, st46⟩ := putF X34 hx hZ12 hown12 (host := "") (Or.inl (hw _ (List.mem_of_getElem? (i := 87) rfl))) Via.refl e34 f40 f37 (Or.inr ⟨(hw _ (List.mem_of_getElem? (i := 88) rfl)), rfl, hnm⟩) (hw _ (List.mem_of_getElem? (i := 1) rfl)) (ty := .int) (by decide) rfl rfl (g := (mkF m 49 #[.val (.ref a1), .val (.ref a2), .val (.double FP.dconst1), .second, .val (.int co), .val (.double FP.dconst0), .second, .val (.long (0 : Int64)), .second] [(.int co), (.ref a1)])) rfl rfl (hb hby d1_49)
  have R47 := CHr.trans R35 (CHr.wr W46 (Safe.exa hZ12.alike f37 (by decide) (by decide)) R35.1)
  have hk48 := Nat.le_trans hk36 (Keep.of_wr W46).1
  have f49 := f37.wr W46
  have f50 := f38.other W46 (Or.inr (slot_ne (Or.inr (hw _ (List.mem_of_getElem? (i := 84) rfl))) (Or.inr (hw _ (List.mem_of_getElem? (i := 88) rfl))) (by decide) (t := (.object "java/lang/String")) (t' := .int) (by decide) (by decide)))
  have f51 := f39.other W46 (Or.inr (slot_ne (Or.inr (hw _ (List.mem_of_getElem? (i := 86) rfl))) (Or.inr (hw _ (List.mem_of_getElem? (i := 88) rfl))) (by decide) (t := .double) (t' := .int) (by decide) (by decide)))
  have f52 := f40.same W46
  have f53 := f41.other W46 (Or.inr (slot_ne (Or.inr (hw _ (List.mem_of_getElem? (i := 90) rfl))) (Or.inr (hw _ (List.mem_of_getElem? (i := 88) rfl))) (by decide) (t := .double) (t' := .int) (by decide) (by decide)))
  have f54 := f42.other W46 (Or.inr (slot_ne (Or.inr (hw _ (List.mem_of_getElem? (i := 92) rfl))) (Or.inr (hw _ (List.mem_of_getElem? (i := 88) rfl))) (by decide) (t := .long) (t' := .int) (by decide) (by decide)))
  have kp55 := kp43.wr W46 (Or.inl (List.mem_of_getElem? (i := 0) rfl))
  have z56 := Nat.le_trans z44 (Keep.of_wr W46).1
  have N57 := Fr.snoc X46 N45 g_a1
  obtain ⟨T58, h58, X58, e58, W58, st58⟩ := putF X46 hx hZ12 hown12 (host := "") (Or.inl (hw _ (List.mem_of_getElem? (i := 89) rfl))) Via.refl e46 f53 f49 (Or.inr ⟨(hw _ (List.mem_of_getElem? (i := 90) rfl)), rfl, hnm⟩) (hw _ (List.mem_of_getElem? (i := 1) rfl)) (ty := .double) (by decide) rfl rfl (g := (mkF m 55 #[.val (.ref a1), .val (.ref a2), .val (.double FP.dconst1), .second, .val (.int co), .val (.double FP.dconst0), .second, .val (.long (0 : Int64)), .second] [(.double FP.dconst0), (.ref a1)])) rfl rfl (hb hby d1_55)
  have R59 := CHr.trans R47 (CHr.wr W58 (Safe.exa hZ12.alike f49 (by decide) (by decide)) R47.1)
  have hk60 := Nat.le_trans hk48 (Keep.of_wr W58).1
  have f61 := f49.wr W58
  have f62 := f50.other W58 (Or.inr (slot_ne (Or.inr (hw _ (List.mem_of_getElem? (i := 84) rfl))) (Or.inr (hw _ (List.mem_of_getElem? (i := 90) rfl))) (by decide) (t := (.object "java/lang/String")) (t' := .double) (by decide) (by decide)))
  have f63 := f51.other W58 (Or.inr (slot_ne (Or.inr (hw _ (List.mem_of_getElem? (i := 86) rfl))) (Or.inr (hw _ (List.mem_of_getElem? (i := 90) rfl))) (by decide) (t := .double) (t' := .double) (by decide) (by decide)))
  have f64 := f52.other W58 (Or.inr (slot_ne (Or.inr (hw _ (List.mem_of_getElem? (i := 88) rfl))) (Or.inr (hw _ (List.mem_of_getElem? (i := 90) rfl))) (by decide) (t := .int) (t' := .double) (by decide) (by decide)))
  have f65 := f53.same W58
  have f66 := f54.other W58 (Or.inr (slot_ne (Or.inr (hw _ (List.mem_of_getElem? (i := 92) rfl))) (Or.inr (hw _ (List.mem_of_getElem? (i := 90) rfl))) (by decide) (t := .long) (t' := .double) (by decide) (by decide)))
  have kp67 := kp55.wr W58 (Or.inl (List.mem_of_getElem? (i := 0) rfl))
  have z68 := Nat.le_trans z56 (Keep.of_wr W58).1
  have N69 := Fr.snoc X58 N57 g_a1
  obtain ⟨T70, h70, X70, e70, W70, st70⟩ := putF X58 hx hZ12 hown12 (host := "") (Or.inl (hw _ (List.mem_of_getElem? (i := 91) rfl))) Via.refl e58 f66 f61 (Or.inr ⟨(hw _ (List.mem_of_getElem? (i := 92) rfl)), rfl, hnm⟩) (hw _ (List.mem_of_getElem? (i := 1) rfl)) (ty := .long) (by decide) rfl rfl (g := (mkF m 61 #[.val (.ref a1), .val (.ref a2), .val (.double FP.dconst1), .second, .val (.int co), .val (.double FP.dconst0), .second, .val (.long (0 : Int64)), .second] [(.long (0 : Int64)), (.ref a1)])) rfl rfl (hb hby d1_61)
  have R71 := CHr.trans R59 (CHr.wr W70 (Safe.exa hZ12.alike f61 (by decide) (by decide)) R59.1)
  have hk72 := Nat.le_trans hk60 (Keep.of_wr W70).1
  have f73 := f61.wr W70
  have f74 := f62.other W70 (Or.inr (slot_ne (Or.inr (hw _ (List.mem_of_getElem? (i := 84) rfl))) (Or.inr (hw _ (List.mem_of_getElem? (i := 92) rfl))) (by decide) (t := (.object "java/lang/String")) (t' := .long) (by decide) (by decide)))
  have f75 := f63.other W70 (Or.inr (slot_ne (Or.inr (hw _ (List.mem_of_getElem? (i := 86) rfl))) (Or.inr (hw _ (List.mem_of_getElem? (i := 92) rfl))) (by decide) (t := .double) (t' := .long) (by decide) (by decide)))
  have f76 := f64.other W70 (Or.inr (slot_ne (Or.inr (hw _ (List.mem_of_getElem? (i := 88) rfl))) (Or.inr (hw _ (List.mem_of_getElem? (i := 92) rfl))) (by decide) (t := .int) (t' := .long) (by decide) (by decide)))
  have f77 := f65.other W70 (Or.inr (slot_ne (Or.inr (hw _ (List.mem_of_getElem? (i := 90) rfl))) (Or.inr (hw _ (List.mem_of_getElem? (i := 92) rfl))) (by decide) (t := .double) (t' := .long) (by decide) (by decide)))
  have f78 := f66.same W70
  have kp79 := kp67.wr W70 (Or.inl (List.mem_of_getElem? (i := 0) rfl))
  have z80 := Nat.le_trans z68 (Keep.of_wr W70).1
  have N81 := Fr.snoc X70 N69 g_a1
  obtain ⟨fs, hr, hrun, hended, hEnd⟩ := X70.leaveW (s := s) hS12 (by rw [e70]; exact hk72) (v := none) (fun _ => rfl)
  refine ⟨_, _, pre0 _ ?_, hrun, hended, _, _, rfl, ?_, ?_, hEnd.1, hEnd.2.1, hEnd.2.2.1, hEnd.2.2.2.mono (by decide) (by decide)⟩
  · show Steps p.tables e below (s₁.setTop (mkF m 0 #[.val (.ref a1), .val (.ref a2), .val (.double FP.dconst1), .second, .val (.int co), .val (.double FP.dconst0), .second, .val (.long (0 : Int64)), .second] [])) _
    refine XS.aloadN X0.here hx rfl (hb hby d1_0) rfl rfl ?_
    show Steps p.tables e below (s₁.setTop (mkF m 1 #[.val (.ref a1), .val (.ref a2), .val (.double FP.dconst1), .second, .val (.int co), .val (.double FP.dconst0), .second, .val (.long (0 : Int64)), .second] [(.ref a1)])) _
    refine st1 _ ?_
    show Steps p.tables e below (T1.setTop (mkF m 4 #[.val (.ref a1), .val (.ref a2), .val (.double FP.dconst1), .second, .val (.int co), .val (.double FP.dconst0), .second, .val (.long (0 : Int64)), .second] [])) _
    refine st2 _ ?_
    show Steps p.tables e below (T2.setTop (mkF m 6 #[.val (.ref a1), .val (.ref a2), .val (.double FP.dconst1), .second, .val (.int co), .val (.double FP.dconst0), .second, .val (.long (0 : Int64)), .second] [(.ref xa2)])) _
    refine XS.aloadN X2.here hx rfl (hb hby d1_6) rfl rfl ?_
    show Steps p.tables e below (T2.setTop (mkF m 7 #[.val (.ref a1), .val (.ref a2), .val (.double FP.dconst1), .second, .val (.int co), .val (.double FP.dconst0), .second, .val (.long (0 : Int64)), .second] [(.ref a2), (.ref xa2)])) _
    refine XS.dloadN X2.here hx rfl (hb hby d1_7) rfl ?_
    show Steps p.tables e below (T2.setTop (mkF m 8 #[.val (.ref a1), .val (.ref a2), .val (.double FP.dconst1), .second, .val (.int co), .val (.double FP.dconst0), .second, .val (.long (0 : Int64)), .second] [(.double FP.dconst1), (.ref a2), (.ref xa2)])) _
    refine XS.iload X2.here hx rfl (hb hby d1_8) rfl ?_
    show Steps p.tables e below (T2.setTop (mkF m 10 #[.val (.ref a1), .val (.ref a2), .val (.double FP.dconst1), .second, .val (.int co), .val (.double FP.dconst0), .second, .val (.long (0 : Int64)), .second] [(.int co), (.double FP.dconst1), (.ref a2), (.ref xa2)])) _
    refine XS.dload X2.here hx rfl (hb hby d1_10) rfl ?_
    show Steps p.tables e below (T2.setTop (mkF m 12 #[.val (.ref a1), .val (.ref a2), .val (.double FP.dconst1), .second, .val (.int co), .val (.double FP.dconst0), .second, .val (.long (0 : Int64)), .second] [(.double FP.dconst0), (.int co), (.double FP.dconst1), (.ref a2), (.ref xa2)])) _
    refine st12.trans ?_
    show Steps p.tables e below (T12.setTop (mkF m 15 #[.val (.ref a1), .val (.ref a2), .val (.double FP.dconst1), .second, .val (.int co), .val (.double FP.dconst0), .second, .val (.long (0 : Int64)), .second] [])) _
    refine XS.lload X12r.here hx rfl (hb hby d1_15) rfl ?_
    show Steps p.tables e below (T12.setTop (mkF m 17 #[.val (.ref a1), .val (.ref a2), .val (.double FP.dconst1), .second, .val (.int co), .val (.double FP.dconst0), .second, .val (.long (0 : Int64)), .second] [(.long (0 : Int64))])) _
    refine XS.lconst X12r.here hx rfl (hb hby d1_17) ?_
    show Steps p.tables e below (T12.setTop (mkF m 18 #[.val (.ref a1), .val (.ref a2), .val (.double FP.dconst1), .second, .val (.int co), .val (.double FP.dconst0), .second, .val (.long (0 : Int64)), .second] [(.long (0 : Int64)), (.long (0 : Int64))])) _
    refine XS.lcmp X12r.here hx rfl (hb hby d1_18) rfl ?_
    show Steps p.tables e below (T12.setTop (mkF m 19 #[.val (.ref a1), .val (.ref a2), .val (.double FP.dconst1), .second, .val (.int co), .val (.double FP.dconst0), .second, .val (.long (0 : Int64)), .second] [(.int (lcmpW (0 : Int64) (0 : Int64)))])) _
    refine XS.ifYes X12r.here hx rfl (pc0 := 19) (pc' := 36) rfl (hb hby d1_19) rfl ((if0 _ _).trans (flt (by decide : ¬ (lcmpW (0 : Int64) (0 : Int64) < (0 : Int32)))).2.1) (by decide) (by decide) ?_
    show Steps p.tables e below (T12.setTop (mkF m 36 #[.val (.ref a1), .val (.ref a2), .val (.double FP.dconst1), .second, .val (.int co), .val (.double FP.dconst0), .second, .val (.long (0 : Int64)), .second] [])) _
    refine XS.aloadN X12r.here hx rfl (hb hby d1_36) rfl rfl ?_
    show Steps p.tables e below (T12.setTop (mkF m 37 #[.val (.ref a1), .val (.ref a2), .val (.double FP.dconst1), .second, .val (.int co), .val (.double FP.dconst0), .second, .val (.long (0 : Int64)), .second] [(.ref a1)])) _
    refine XS.aloadN X12r.here hx rfl (hb hby d1_37) rfl rfl ?_
    show Steps p.tables e below (T12.setTop (mkF m 38 #[.val (.ref a1), .val (.ref a2), .val (.double FP.dconst1), .second, .val (.int co), .val (.double FP.dconst0), .second, .val (.long (0 : Int64)), .second] [(.ref a2), (.ref a1)])) _
    refine st22 _ ?_
    show Steps p.tables e below (T22.setTop (mkF m 41 #[.val (.ref a1), .val (.ref a2), .val (.double FP.dconst1), .second, .val (.int co), .val (.double FP.dconst0), .second, .val (.long (0 : Int64)), .second] [])) _
    refine XS.aloadN X22.here hx rfl (hb hby d1_41) rfl rfl ?_
    show Steps p.tables e below (T22.setTop (mkF m 42 #[.val (.ref a1), .val (.ref a2), .val (.double FP.dconst1), .second, .val (.int co), .val (.double FP.dconst0), .second, .val (.long (0 : Int64)), .second] [(.ref a1)])) _
    refine XS.dloadN X22.here hx rfl (hb hby d1_42) rfl ?_
    show Steps p.tables e below (T22.setTop (mkF m 43 #[.val (.ref a1), .val (.ref a2), .val (.double FP.dconst1), .second, .val (.int co), .val (.double FP.dconst0), .second, .val (.long (0 : Int64)), .second] [(.double FP.dconst1), (.ref a1)])) _
    refine st34 _ ?_
    show Steps p.tables e below (T34.setTop (mkF m 46 #[.val (.ref a1), .val (.ref a2), .val (.double FP.dconst1), .second, .val (.int co), .val (.double FP.dconst0), .second, .val (.long (0 : Int64)), .second] [])) _
    refine XS.aloadN X34.here hx rfl (hb hby d1_46) rfl rfl ?_
    show Steps p.tables e below (T34.setTop (mkF m 47 #[.val (.ref a1), .val (.ref a2), .val (.double FP.dconst1), .second, .val (.int co), .val (.double FP.dconst0), .second, .val (.long (0 : Int64)), .second] [(.ref a1)])) _
    refine XS.iload X34.here hx rfl (hb hby d1_47) rfl ?_
    show Steps p.tables e below (T34.setTop (mkF m 49 #[.val (.ref a1), .val (.ref a2), .val (.double FP.dconst1), .second, .val (.int co), .val (.double FP.dconst0), .second, .val (.long (0 : Int64)), .second] [(.int co), (.ref a1)])) _
    refine st46 _ ?_
    show Steps p.tables e below (T46.setTop (mkF m 52 #[.val (.ref a1), .val (.ref a2), .val (.double FP.dconst1), .second, .val (.int co), .val (.double FP.dconst0), .second, .val (.long (0 : Int64)), .second] [])) _
    refine XS.aloadN X46.here hx rfl (hb hby d1_52) rfl rfl ?_
    show Steps p.tables e below (T46.setTop (mkF m 53 #[.val (.ref a1), .val (.ref a2), .val (.double FP.dconst1), .second, .val (.int co), .val (.double FP.dconst0), .second, .val (.long (0 : Int64)), .second] [(.ref a1)])) _
    refine XS.dload X46.here hx rfl (hb hby d1_53) rfl ?_
    show Steps p.tables e below (T46.setTop (mkF m 55 #[.val (.ref a1), .val (.ref a2), .val (.double FP.dconst1), .second, .val (.int co), .val (.double FP.dconst0), .second, .val (.long (0 : Int64)), .second] [(.double FP.dconst0), (.ref a1)])) _
    refine st58 _ ?_
    show Steps p.tables e below (T58.setTop (mkF m 58 #[.val (.ref a1), .val (.ref a2), .val (.double FP.dconst1), .second, .val (.int co), .val (.double FP.dconst0), .second, .val (.long (0 : Int64)), .second] [])) _
    refine XS.aloadN X58.here hx rfl (hb hby d1_58) rfl rfl ?_
    show Steps p.tables e below (T58.setTop (mkF m 59 #[.val (.ref a1), .val (.ref a2), .val (.double FP.dconst1), .second, .val (.int co), .val (.double FP.dconst0), .second, .val (.long (0 : Int64)), .second] [(.ref a1)])) _
    refine XS.lload X58.here hx rfl (hb hby d1_59) rfl ?_
    show Steps p.tables e below (T58.setTop (mkF m 61 #[.val (.ref a1), .val (.ref a2), .val (.double FP.dconst1), .second, .val (.int co), .val (.double FP.dconst0), .second, .val (.long (0 : Int64)), .second] [(.long (0 : Int64)), (.ref a1)])) _
    refine st70 _ ?_
    show Steps p.tables e below (T70.setTop (mkF m 64 #[.val (.ref a1), .val (.ref a2), .val (.double FP.dconst1), .second, .val (.int co), .val (.double FP.dconst0), .second, .val (.long (0 : Int64)), .second] [])) _
    exact X70.returnOut hx Bd.returns (hb hby d1_64) hr
  · show own_Qm Z a1 co h0 n0 _ T70.heap _
    rw [e70]
    exact ⟨rfl, N81, kp79, f73, f76⟩
  · show CHr Z own_EL s.vm s.heap T70.vm T70.heap
    rw [hh, e70]
    exact CHr.trans R71 (CHv.at X70 hZ12 hEL R71.1)
theorem pd_11 : parseMethodDescriptor "(Ljava/lang/String;DIDJ)V" = some ⟨[(.object "java/lang/String"), .double, .int, .double, .long], none⟩ := by decide +kernel
def own_Qs (Z : State) (a1 a2 : Addr) (p : Int32) (h0 : Heap) (n0 : Nat) (v : Option Value) (h : Heap) (L : List Loc) : Prop := v = none ∧ Fr n0 L ∧ Keep h0 h [a1] ∧ Exa Z h a1 "com/example/makespun/makespun/pool/Slot" ∧ Fld Z h a1 "com/example/makespun/makespun/pool/Slot" "machine" "Lcom/example/makespun/makespun/pool/Machine;" (.ref a2) ∧ Fld Z h a1 "com/example/makespun/makespun/pool/Slot" "number" "I" (.int p)
theorem d16_0 : decode prog_69_method_1_code 0 = .ok (.aload_n 0, 1) := by decide +kernel
theorem d16_1 : decode prog_69_method_1_code 1 = .ok (.invokespecial 1, 3) := by decide +kernel
theorem d16_4 : decode prog_69_method_1_code 4 = .ok (.aload_n 1, 1) := by decide +kernel
theorem d16_5 : decode prog_69_method_1_code 5 = .ok (.ldc 7, 2) := by decide +kernel
theorem d16_7 : decode prog_69_method_1_code 7 = .ok (.invokestatic 9, 3) := by decide +kernel
theorem d16_10 : decode prog_69_method_1_code 10 = .ok (.pop, 1) := by decide +kernel
theorem d16_11 : decode prog_69_method_1_code 11 = .ok (.iload_n 2, 1) := by decide +kernel
theorem d16_12 : decode prog_69_method_1_code 12 = .ok (.ifCond .lt 11, 3) := by decide +kernel
theorem d16_15 : decode prog_69_method_1_code 15 = .ok (.iload_n 2, 1) := by decide +kernel
theorem d16_16 : decode prog_69_method_1_code 16 = .ok (.aload_n 1, 1) := by decide +kernel
theorem d16_17 : decode prog_69_method_1_code 17 = .ok (.invokevirtual 15, 3) := by decide +kernel
theorem d16_20 : decode prog_69_method_1_code 20 = .ok (.if_icmp .lt 27, 3) := by decide +kernel
theorem d16_23 : decode prog_69_method_1_code 23 = .ok (.new 21, 3) := by decide +kernel
theorem d16_26 : decode prog_69_method_1_code 26 = .ok (.dup, 1) := by decide +kernel
theorem d16_27 : decode prog_69_method_1_code 27 = .ok (.aload_n 1, 1) := by decide +kernel
theorem d16_28 : decode prog_69_method_1_code 28 = .ok (.invokevirtual 23, 3) := by decide +kernel
theorem d16_31 : decode prog_69_method_1_code 31 = .ok (.iload_n 2, 1) := by decide +kernel
theorem d16_32 : decode prog_69_method_1_code 32 = .ok (.aload_n 1, 1) := by decide +kernel
theorem d16_33 : decode prog_69_method_1_code 33 = .ok (.invokevirtual 15, 3) := by decide +kernel
theorem d16_36 : decode prog_69_method_1_code 36 = .ok (.iconst 1, 1) := by decide +kernel
theorem d16_37 : decode prog_69_method_1_code 37 = .ok (.isub, 1) := by decide +kernel
theorem d16_43 : decode prog_69_method_1_code 43 = .ok (.invokespecial 31, 3) := by decide +kernel
theorem d16_46 : decode prog_69_method_1_code 46 = .ok (.athrow, 1) := by decide +kernel
theorem d16_47 : decode prog_69_method_1_code 47 = .ok (.aload_n 0, 1) := by decide +kernel
theorem d16_48 : decode prog_69_method_1_code 48 = .ok (.aload_n 1, 1) := by decide +kernel
theorem d16_49 : decode prog_69_method_1_code 49 = .ok (.putfield 34, 3) := by decide +kernel
theorem d16_52 : decode prog_69_method_1_code 52 = .ok (.aload_n 0, 1) := by decide +kernel
theorem d16_53 : decode prog_69_method_1_code 53 = .ok (.iload_n 2, 1) := by decide +kernel
theorem d16_54 : decode prog_69_method_1_code 54 = .ok (.putfield 39, 3) := by decide +kernel
theorem d16_57 : decode prog_69_method_1_code 57 = .ok (.return_, 1) := by decide +kernel
theorem pn_16 : plainName "com/example/makespun/makespun/pool/Slot" = true := by first | (simp [plainName, overriddenIn]; done) | decide +kernel
theorem ef_16 (m : MethodId) (x0 : Addr) (x1 : Addr) (x2 : Int32) : entryFrame m #[(.ref x0), (.ref x1), (.int x2)] 3 = mkF m 0 #[.val (.ref x0), .val (.ref x1), .val (.int x2)] [] := by first | (simp [entryFrame, mkF, argsToLocals, Value.category]; done) | rfl
set_option maxRecDepth 65536 in
set_option maxHeartbeats 40000000 in
theorem rmSl (l : Launch) (Z : State) (a0 : Array Value) (hw : ∀ d ∈ tables_1, d.before a0 Z = true) (ws : List Jvm.Cond) (a1 a2 : Addr) (pn co : Int32) (h0 : Heap) (n0 : Nat) (Z0 : n0 ≤ h0.size) (E_a1 : Exa Z h0 a1 "com/example/makespun/makespun/pool/Slot") (F_m : Fld Z h0 a1 "com/example/makespun/makespun/pool/Slot" "machine" "Lcom/example/makespun/makespun/pool/Machine;" .null) (F_n : Fld Z h0 a1 "com/example/makespun/makespun/pool/Slot" "number" "I" (.int (0 : Int32))) (g_a1 : n0 ≤ a1) (E_a2 : Exa Z h0 a2 "com/example/makespun/makespun/pool/Machine") (F_c : Fld Z h0 a2 "com/example/makespun/makespun/pool/Machine" "cores" "I" (.int co)) (hp0 : ¬ pn < (0 : Int32)) (hp1 : pn < co) :
    MetFree l (⟨"com/example/makespun/makespun/pool/Slot", "<init>", "(Lcom/example/makespun/makespun/pool/Machine;I)V"⟩ : MethodName) (head1 (Jvm.Cond.code (⟨"com/example/makespun/makespun/pool/Slot", "<init>", "(Lcom/example/makespun/makespun/pool/Machine;I)V"⟩ : MethodName) prog_69_method_1_code 3 none :: ws) ({ frames := 1, cells := 2, slots := 32, locals := 14 } : Room)) (fun a U => a = #[(.ref a1), (.ref a2), (.int pn)] ∧ Z.Warmed39 U.vm ∧ U.heap = h0 ∧ CHv Z own_EL U.vm h0) (fun _ _ _ _ _ => True) (fun _ U o U' => ∃ v L, o = .returned v ∧ own_Qs Z a1 a2 pn h0 n0 v U'.heap L ∧ CHr Z own_EL U.vm U.heap U'.vm U'.heap ∧ ReturnedEndW U o U' L ({ frames := 1, cells := 2, slots := 32, locals := 14 } : Room).cells ({ frames := 1, cells := 2, slots := 32, locals := 14 } : Room).slots) := by
  refine MetFree.of_bodySF (plainFor_of_name pn_16) hisR ?_
  intro p e s m args below meth c s₁ Bd hml0 hP hK
  obtain ⟨rfl, hZ, hh, hCH⟩ := hP
  have hx := Bd.exec
  have hby := Bd.bytes
  have hml : c.maxLocals = 3 := hml0
  have hown : s.vm.findClass "com/example/makespun/makespun/pool/Slot" = some m.cls := findClass_of_methodNamed Bd.named
  have hnm := (name_of_methodNamed Bd.named Bd.method).1
  have X0 : Stand p l e ({ frames := 1, cells := 2, slots := 32, locals := 14 } : Room) (s.setVm s.vm) m #[(.ref a1), (.ref a2), (.int pn)] below meth c s₁ [] 0 0 := Stand.of_body Bd
  have e0 : s₁.heap = h0 := by rw [← hh, Bd.state]; rfl
  have N0 := Fr.nil n0
  have pre0 : ∀ tq, Steps p.tables e below (s₁.setTop (mkF m 0 #[.val (.ref a1), .val (.ref a2), .val (.int pn)] [])) tq → Steps p.tables e below (s₁.setTop (entryFrame m #[(.ref a1), (.ref a2), (.int pn)] 3)) tq := fun tq k => castTop (ef_16 m a1 a2 pn) k
  have hS0 : s.Since s.vm 0 := (State.WarmedH.refl s).since 0
  have R0 := CHr.refl hCH
  have hEL := own_ew hw
  have ne_a2_a1 : a2 ≠ a1 := ne_exa E_a2 E_a1 (by decide)
  obtain ⟨T1, X1, e1, st1⟩ := initO X0 hx hZ hown (hw _ (List.mem_of_getElem? (i := 100) rfl)) (hw _ (List.mem_of_getElem? (i := 15) rfl)) (hw _ (List.mem_of_getElem? (i := 16) rfl)) e0 (g := (mkF m 1 #[.val (.ref a1), .val (.ref a2), .val (.int pn)] [(.ref a1)])) rfl (by rw [hml]; rfl) rfl (hb hby d16_1) (by decide) (W := 0) (by show 2 * 0 + _ ≤ _; exact Nat.le_of_eq rfl) (by decide)
  obtain ⟨xa2, T2, h2, n2, X2, e2, E2, hS2, hk2, hZ2, hown2, C2, li2, st2⟩ := ldcOH X1 hx hZ hown (hw _ (List.mem_of_getElem? (i := 101) rfl)) (own_sa hw) e1 hS0 (Nat.zero_le _) hEL R0.1 (g := (mkF m 5 #[.val (.ref a1), .val (.ref a2), .val (.int pn)] [(.ref a2)])) rfl (hb hby d16_5) (n := 28) (by decide) (by decide) (by decide) (by decide)
  have f3 := E_a1.ext E2
  have f4 := F_m.ext E2
  have f5 := F_n.ext E2
  have f6 := E_a2.ext E2
  have f7 := F_c.ext E2
  have z8 := Nat.le_trans Z0 E2.1
  have kp9 := (Keep.refl h0 [a1]).ext E2
  have R10 := CHr.trans R0 C2
  obtain ⟨_, _, ⟨T11, L11, k11, n11⟩, -, X11, ⟨Lc11, hQ11, l11, y11, z11⟩, st11⟩ := Jvm.LawKit.callS X2 hx (y := (⟨"java/util/Objects", "requireNonNull", "(Ljava/lang/Object;Ljava/lang/String;)Ljava/lang/Object;"⟩ : MethodName)) hown2 (mvT hZ2 (hw _ (List.mem_of_getElem? (i := 102) rfl))) (mvT hZ2 (hw _ (List.mem_of_getElem? (i := 23) rfl))) (mvT hZ2 (hw _ (List.mem_of_getElem? (i := 24) rfl))) (mvT hZ2 (hw _ (List.mem_of_getElem? (i := 25) rfl))) (by decide) (backOf (W := 0) (rmQ l Z a0 hw [] a2 xa2 h2 n0 z8) hZ2 (hw _ (List.mem_of_getElem? (i := 25) rfl)) (hw _ (List.mem_of_getElem? (i := 24) rfl)) (by decide) (by decide)) (g := (mkF m 7 #[.val (.ref a1), .val (.ref a2), .val (.int pn)] [(.ref xa2), (.ref a2)])) rfl (by rw [hml]; rfl) (argsL := [(.ref a2), (.ref xa2)]) (rest := []) (lenOf pd_7 rfl) rfl (by show 2 * 0 + _ ≤ _; exact Nat.le_of_eq rfl) (hb hby d16_7) (fun _ _ => ⟨rfl, e2, (by decide : 2 + 0 ≤ _), (by decide : 32 + 0 ≤ _)⟩)
  dsimp only [Pt.U, Pt.locs, Pt.cells, Pt.slots] at X11 l11 y11 z11 st11 hQ11
  subst l11 y11 z11
  obtain ⟨rfl, N11q, e11⟩ := hQ11
  have N11 := Fr.app N0 N11q
  obtain ⟨cq12, kq12, q12a, q12b, q12c⟩ := isOf hZ2 e11 f6
  obtain ⟨_, _, ⟨T12, L12, k12, n12⟩, -, X12, ⟨Lc12, hQ12, l12, y12, z12⟩, st12⟩ := X11.virtualBack hx (y := (⟨"com/example/makespun/makespun/pool/Machine", "getCores", "()I"⟩ : MethodName)) (z := (⟨"com/example/makespun/makespun/pool/Machine", "getCores", "()I"⟩ : MethodName)) hown2 (mvT hZ2 (hw _ (List.mem_of_getElem? (i := 103) rfl))) (mvT hZ2 (hw _ (List.mem_of_getElem? (i := 104) rfl))) (notFace_of_selects (args := #[]) (mvT hZ2 (hw _ (List.mem_of_getElem? (i := 106) rfl)))) (mvT hZ2 (hw _ (List.mem_of_getElem? (i := 106) rfl))) (mvT hZ2 (hw _ (List.mem_of_getElem? (i := 105) rfl))) (by decide) (backOf (W := 1) (rmGC l Z a0 hw [] a2 co h2 n0 z8 f7) hZ2 (hw _ (List.mem_of_getElem? (i := 107) rfl)) (hw _ (List.mem_of_getElem? (i := 2) rfl)) (by decide) (by decide)) q12a q12c (g := (mkF m 17 #[.val (.ref a1), .val (.ref a2), .val (.int pn)] [(.ref a2), (.int pn)])) rfl (by rw [hml]; rfl) (Steps.refl _) (argsL := []) (rest := [(.int pn)]) (lenOf pd_6 rfl) rfl (by show 2 * 0 + _ ≤ _; exact Nat.le_of_eq rfl) (hb hby d16_17) (fun _ _ => ⟨rfl, e11, (by decide : 2 + 0 ≤ _), (by decide : 32 + 0 ≤ _)⟩)
  dsimp only [Pt.U, Pt.locs, Pt.cells, Pt.slots] at X12 l12 y12 z12 st12 hQ12
  subst l12 y12 z12
  obtain ⟨rfl, N12q, e12⟩ := hQ12
  have N12 := Fr.app N11 N12q
  obtain ⟨T13, h13, X13, e13, W13, st13⟩ := putF X12 hx hZ2 hown2 (host := "") (Or.inl (hw _ (List.mem_of_getElem? (i := 108) rfl))) Via.refl e12 f4 f3 (Or.inr ⟨(hw _ (List.mem_of_getElem? (i := 109) rfl)), rfl, hnm⟩) (hw _ (List.mem_of_getElem? (i := 95) rfl)) (ty := (.object "com/example/makespun/makespun/pool/Machine")) (by decide) rfl rfl (g := (mkF m 49 #[.val (.ref a1), .val (.ref a2), .val (.int pn)] [(.ref a2), (.ref a1)])) rfl rfl (hb hby d16_49)
  have R14 := CHr.trans R10 (CHr.wr W13 (Safe.exa hZ2.alike f3 (by decide) (by decide)) R10.1)
  have hk15 := Nat.le_trans hk2 (Keep.of_wr W13).1
  have f16 := f3.wr W13
  have f17 := f4.same W13
  have f18 := f5.other W13 (Or.inr (slot_ne (Or.inr (hw _ (List.mem_of_getElem? (i := 111) rfl))) (Or.inr (hw _ (List.mem_of_getElem? (i := 109) rfl))) (by decide) (t := .int) (t' := (.object "com/example/makespun/makespun/pool/Machine")) (by decide) (by decide)))
  have f19 := f6.wr W13
  have f20 := f7.other W13 (Or.inl ne_a2_a1)
  have kp21 := kp9.wr W13 (Or.inl (List.mem_of_getElem? (i := 0) rfl))
  have z22 := Nat.le_trans z8 (Keep.of_wr W13).1
  have N23 := Fr.snoc X13 N12 g_a1
  obtain ⟨T24, h24, X24, e24, W24, st24⟩ := putF X13 hx hZ2 hown2 (host := "") (Or.inl (hw _ (List.mem_of_getElem? (i := 110) rfl))) Via.refl e13 f18 f16 (Or.inr ⟨(hw _ (List.mem_of_getElem? (i := 111) rfl)), rfl, hnm⟩) (hw _ (List.mem_of_getElem? (i := 95) rfl)) (ty := .int) (by decide) rfl rfl (g := (mkF m 54 #[.val (.ref a1), .val (.ref a2), .val (.int pn)] [(.int pn), (.ref a1)])) rfl rfl (hb hby d16_54)
  have R25 := CHr.trans R14 (CHr.wr W24 (Safe.exa hZ2.alike f16 (by decide) (by decide)) R14.1)
  have hk26 := Nat.le_trans hk15 (Keep.of_wr W24).1
  have f27 := f16.wr W24
  have f28 := f17.other W24 (Or.inr (slot_ne (Or.inr (hw _ (List.mem_of_getElem? (i := 109) rfl))) (Or.inr (hw _ (List.mem_of_getElem? (i := 111) rfl))) (by decide) (t := (.object "com/example/makespun/makespun/pool/Machine")) (t' := .int) (by decide) (by decide)))
  have f29 := f18.same W24
  have f30 := f19.wr W24
  have f31 := f20.other W24 (Or.inl ne_a2_a1)
  have kp32 := kp21.wr W24 (Or.inl (List.mem_of_getElem? (i := 0) rfl))
  have z33 := Nat.le_trans z22 (Keep.of_wr W24).1
  have N34 := Fr.snoc X24 N23 g_a1
  obtain ⟨fs, hr, hrun, hended, hEnd⟩ := X24.leaveW (s := s) hS2 (by rw [e24]; exact hk26) (v := none) (fun _ => rfl)
  refine ⟨_, _, pre0 _ ?_, hrun, hended, _, _, rfl, ?_, ?_, hEnd.1, hEnd.2.1, hEnd.2.2.1, hEnd.2.2.2.mono (by decide) (by decide)⟩
  · show Steps p.tables e below (s₁.setTop (mkF m 0 #[.val (.ref a1), .val (.ref a2), .val (.int pn)] [])) _
    refine XS.aloadN X0.here hx rfl (hb hby d16_0) rfl rfl ?_
    show Steps p.tables e below (s₁.setTop (mkF m 1 #[.val (.ref a1), .val (.ref a2), .val (.int pn)] [(.ref a1)])) _
    refine st1 _ ?_
    show Steps p.tables e below (T1.setTop (mkF m 4 #[.val (.ref a1), .val (.ref a2), .val (.int pn)] [])) _
    refine XS.aloadN X1.here hx rfl (hb hby d16_4) rfl rfl ?_
    show Steps p.tables e below (T1.setTop (mkF m 5 #[.val (.ref a1), .val (.ref a2), .val (.int pn)] [(.ref a2)])) _
    refine st2 _ ?_
    show Steps p.tables e below (T2.setTop (mkF m 7 #[.val (.ref a1), .val (.ref a2), .val (.int pn)] [(.ref xa2), (.ref a2)])) _
    refine st11 _ ?_
    show Steps p.tables e below (T11.setTop (mkF m 10 #[.val (.ref a1), .val (.ref a2), .val (.int pn)] [(.ref a2)])) _
    refine XS.pop X11.here hx rfl (hb hby d16_10) rfl rfl ?_
    show Steps p.tables e below (T11.setTop (mkF m 11 #[.val (.ref a1), .val (.ref a2), .val (.int pn)] [])) _
    refine XS.iloadN X11.here hx rfl (hb hby d16_11) rfl ?_
    show Steps p.tables e below (T11.setTop (mkF m 12 #[.val (.ref a1), .val (.ref a2), .val (.int pn)] [(.int pn)])) _
    refine XS.ifNo X11.here hx rfl (hb hby d16_12) rfl ((if0 _ _).trans (flt hp0).1) ?_
    show Steps p.tables e below (T11.setTop (mkF m 15 #[.val (.ref a1), .val (.ref a2), .val (.int pn)] [])) _
    refine XS.iloadN X11.here hx rfl (hb hby d16_15) rfl ?_
    show Steps p.tables e below (T11.setTop (mkF m 16 #[.val (.ref a1), .val (.ref a2), .val (.int pn)] [(.int pn)])) _
    refine XS.aloadN X11.here hx rfl (hb hby d16_16) rfl rfl ?_
    show Steps p.tables e below (T11.setTop (mkF m 17 #[.val (.ref a1), .val (.ref a2), .val (.int pn)] [(.ref a2), (.int pn)])) _
    refine st12.trans ?_
    show Steps p.tables e below (T12.setTop (mkF m 20 #[.val (.ref a1), .val (.ref a2), .val (.int pn)] [(.int co), (.int pn)])) _
    refine XS.icmpYes X12.here hx rfl (pc0 := 20) (pc' := 47) rfl (hb hby d16_20) rfl (tlt hp1).1 (by decide) (by decide) ?_
    show Steps p.tables e below (T12.setTop (mkF m 47 #[.val (.ref a1), .val (.ref a2), .val (.int pn)] [])) _
    refine XS.aloadN X12.here hx rfl (hb hby d16_47) rfl rfl ?_
    show Steps p.tables e below (T12.setTop (mkF m 48 #[.val (.ref a1), .val (.ref a2), .val (.int pn)] [(.ref a1)])) _
    refine XS.aloadN X12.here hx rfl (hb hby d16_48) rfl rfl ?_
    show Steps p.tables e below (T12.setTop (mkF m 49 #[.val (.ref a1), .val (.ref a2), .val (.int pn)] [(.ref a2), (.ref a1)])) _
    refine st13 _ ?_
    show Steps p.tables e below (T13.setTop (mkF m 52 #[.val (.ref a1), .val (.ref a2), .val (.int pn)] [])) _
    refine XS.aloadN X13.here hx rfl (hb hby d16_52) rfl rfl ?_
    show Steps p.tables e below (T13.setTop (mkF m 53 #[.val (.ref a1), .val (.ref a2), .val (.int pn)] [(.ref a1)])) _
    refine XS.iloadN X13.here hx rfl (hb hby d16_53) rfl ?_
    show Steps p.tables e below (T13.setTop (mkF m 54 #[.val (.ref a1), .val (.ref a2), .val (.int pn)] [(.int pn), (.ref a1)])) _
    refine st24 _ ?_
    show Steps p.tables e below (T24.setTop (mkF m 57 #[.val (.ref a1), .val (.ref a2), .val (.int pn)] [])) _
    exact X24.returnOut hx Bd.returns (hb hby d16_57) hr
  · show own_Qs Z a1 a2 pn h0 n0 _ T24.heap _
    rw [e24]
    exact ⟨rfl, N34, kp32, f27, f28, f29⟩
  · show CHr Z own_EL s.vm s.heap T24.vm T24.heap
    rw [hh, e24]
    exact CHr.trans R25 (CHv.at X24 hZ2 hEL R25.1)
theorem pd_12 : parseMethodDescriptor "(Lcom/example/makespun/makespun/pool/Machine;I)V" = some ⟨[(.object "com/example/makespun/makespun/pool/Machine"), .int], none⟩ := by decide +kernel
def own_Cache (Z : State) (h : Heap) (cl : Cell) : Prop := cl.slots.size = 256 ∧ ∀ j : Int32, ¬ (j < 0 ∨ cl.slots.size ≤ j.toNatClampNeg) → ∃ b, cl.slots[j.toNatClampNeg]? = some (.ref b) ∧ Exa Z h b "java/lang/Integer"
def own_K (Z : State) (h : Heap) (ca : Addr) (cl : Cell) : Prop := Sta Z h "java/lang/Integer$IntegerCache" "high" "I" (.int (127 : Int32)) ∧ Sta Z h "java/lang/Integer$IntegerCache" "cache" "[Ljava/lang/Integer;" (.ref ca) ∧ Arr Z h ca cl (.object "java/lang/Integer") ∧ own_Cache Z h cl
theorem own_K.keep {Z : State} {h h' : Heap} {ca : Addr} {cl : Cell} (F : own_K Z h ca cl) (K : Keep h h' []) : own_K Z h' ca cl := ⟨own_sta_keep F.1 K, own_sta_keep F.2.1 K, own_arr_keep F.2.2.1 K, F.2.2.2.1, fun j hj => by obtain ⟨b, q, E⟩ := F.2.2.2.2 j hj; exact ⟨b, q, E.keep K⟩⟩
theorem own_idx {v : Int32} (h1 : ¬ v < (0 : Int32)) (h2 : v < (9 : Int32)) : ¬ v < (-128 : Int32) ∧ ¬ (127 : Int32) < v ∧ ¬ (v + (128 : Int32)) < 0 ∧ (v + (128 : Int32)).toNatClampNeg < 256 := by
  rw [Int32.lt_iff_toInt_lt] at h1 h2
  have z1 : (-128 : Int32).toInt = -128 := by decide
  have z2 : (127 : Int32).toInt = 127 := by decide
  have z3 : (128 : Int32).toInt = 128 := by decide
  have z4 : (0 : Int32).toInt = 0 := by decide
  have z5 : (9 : Int32).toInt = 9 := by decide
  have e2 : (v + (128 : Int32)).toInt = v.toInt + (128 : Int32).toInt := Jvm.Kit.i32_add (by omega) (by omega)
  have nn : ¬ (v + (128 : Int32)) < 0 := by rw [Int32.lt_iff_toInt_lt]; omega
  refine ⟨by rw [Int32.lt_iff_toInt_lt]; omega, by rw [Int32.lt_iff_toInt_lt]; omega, nn, ?_⟩
  have e3 := nat_of nn
  omega
def own_Qv (Z : State) (p1 : Int32) (h0 : Heap) (n0 : Nat) (v : Option Value) (h : Heap) (L : List Loc) : Prop := ∃ b : Addr, v = some (.ref b) ∧ Fr n0 L ∧ h = h0 ∧ Exa Z h b "java/lang/Integer"
theorem d19_0 : decode jdk_33_method_22_code 0 = .ok (.iload_n 0, 1) := by decide +kernel
theorem d19_1 : decode jdk_33_method_22_code 1 = .ok (.bipush (-128), 2) := by decide +kernel
theorem d19_3 : decode jdk_33_method_22_code 3 = .ok (.if_icmp .lt 20, 3) := by decide +kernel
theorem d19_6 : decode jdk_33_method_22_code 6 = .ok (.iload_n 0, 1) := by decide +kernel
theorem d19_7 : decode jdk_33_method_22_code 7 = .ok (.getstatic 191, 3) := by decide +kernel
theorem d19_10 : decode jdk_33_method_22_code 10 = .ok (.if_icmp .gt 13, 3) := by decide +kernel
theorem d19_13 : decode jdk_33_method_22_code 13 = .ok (.getstatic 195, 3) := by decide +kernel
theorem d19_16 : decode jdk_33_method_22_code 16 = .ok (.iload_n 0, 1) := by decide +kernel
theorem d19_17 : decode jdk_33_method_22_code 17 = .ok (.sipush 128, 3) := by decide +kernel
theorem d19_20 : decode jdk_33_method_22_code 20 = .ok (.iadd, 1) := by decide +kernel
theorem d19_21 : decode jdk_33_method_22_code 21 = .ok (.aaload, 1) := by decide +kernel
theorem d19_22 : decode jdk_33_method_22_code 22 = .ok (.areturn, 1) := by decide +kernel
theorem d19_23 : decode jdk_33_method_22_code 23 = .ok (.new 1, 3) := by decide +kernel
theorem d19_26 : decode jdk_33_method_22_code 26 = .ok (.dup, 1) := by decide +kernel
theorem d19_27 : decode jdk_33_method_22_code 27 = .ok (.iload_n 0, 1) := by decide +kernel
theorem d19_28 : decode jdk_33_method_22_code 28 = .ok (.invokespecial 199, 3) := by decide +kernel
theorem d19_31 : decode jdk_33_method_22_code 31 = .ok (.areturn, 1) := by decide +kernel
theorem pn_19 : plainName "java/lang/Integer" = true := by first | (simp [plainName, overriddenIn]; done) | decide +kernel
theorem ef_19 (m : MethodId) (x0 : Int32) : entryFrame m #[(.int x0)] 1 = mkF m 0 #[.val (.int x0)] [] := by first | (simp [entryFrame, mkF, argsToLocals, Value.category]; done) | rfl
set_option maxRecDepth 65536 in
set_option maxHeartbeats 40000000 in
theorem rmV (l : Launch) (Z : State) (a0 : Array Value) (hw : ∀ d ∈ tables_1, d.before a0 Z = true) (ws : List Jvm.Cond) (p1 : Int32) (ca : Addr) (cl : Cell) (h0 : Heap) (n0 : Nat) (Z0 : n0 ≤ h0.size) (Kc : own_K Z h0 ca cl) (hq0 : ¬ p1 < (0 : Int32)) (hq1 : p1 < (9 : Int32)) :
    MetFree l (⟨"java/lang/Integer", "valueOf", "(I)Ljava/lang/Integer;"⟩ : MethodName) (head1 (Jvm.Cond.code (⟨"java/lang/Integer", "valueOf", "(I)Ljava/lang/Integer;"⟩ : MethodName) jdk_33_method_22_code 1 (some (.object "java/lang/Integer")) :: ws) ({ frames := 0, cells := 0, slots := 0, locals := 0 } : Room)) (fun a U => a = #[(.int p1)] ∧ Z.Warmed39 U.vm ∧ U.heap = h0) (fun _ _ _ _ _ => True) (fun _ U o U' => ∃ v L, o = .returned v ∧ own_Qv Z p1 h0 n0 v U'.heap L ∧ FrameEnd U o U' L ({ frames := 0, cells := 0, slots := 0, locals := 0 } : Room).cells ({ frames := 0, cells := 0, slots := 0, locals := 0 } : Room).slots) := by
  refine MetFree.of_bodySF (plainFor_of_name pn_19) hisR ?_
  intro p e s m args below meth c s₁ Bd hml0 hP hK
  obtain ⟨rfl, hZ, hh⟩ := hP
  have hx := Bd.exec
  have hby := Bd.bytes
  have hml : c.maxLocals = 1 := hml0
  have hown : s.vm.findClass "java/lang/Integer" = some m.cls := findClass_of_methodNamed Bd.named
  have hnm := (name_of_methodNamed Bd.named Bd.method).1
  have X0 : Stand p l e ({ frames := 0, cells := 0, slots := 0, locals := 0 } : Room) s m #[(.int p1)] below meth c s₁ [] 0 0 := Stand.of_body Bd
  have e0 : s₁.heap = h0 := by rw [← hh, Bd.state]; rfl
  have N0 := Fr.nil n0
  have pre0 : ∀ tq, Steps p.tables e below (s₁.setTop (mkF m 0 #[.val (.int p1)] [])) tq → Steps p.tables e below (s₁.setTop (entryFrame m #[(.int p1)] 1)) tq := fun tq k => castTop (ef_19 m p1) k
  have hj := own_idx hq0 hq1
  obtain ⟨T1, X1, e1, st1⟩ := getS2 X0 hx hZ hown (host := "") (Or.inl (hw _ (List.mem_of_getElem? (i := 125) rfl))) Via.refl e0 Kc.1 (g := (mkF m 7 #[.val (.int p1)] [(.int p1)])) rfl (hb hby d19_7)
  obtain ⟨T2, X2, e2, st2⟩ := getS2 X1 hx hZ hown (host := "") (Or.inl (hw _ (List.mem_of_getElem? (i := 127) rfl))) Via.refl e1 Kc.2.1 (g := (mkF m 13 #[.val (.int p1)] [])) rfl (hb hby d19_13)
  have hin : ¬ ((p1 + (128 : Int32)) < 0 ∨ cl.slots.size ≤ ((p1 + (128 : Int32))).toNatClampNeg) := fun q => q.elim hj.2.2.1 fun r => by have := hj.2.2.2; rw [Kc.2.2.2.1] at r; omega
  obtain ⟨bx, hbx, Ebx⟩ := Kc.2.2.2.2 _ hin
  obtain ⟨fs, hr, hrun, hended, hW, hsame⟩ := X2.leave (v := some (.ref bx)) (fun h => by rw [Bd.returns] at h; cases h)
  refine ⟨_, _, pre0 _ ?_, hrun, hended, _, _, rfl, ?_, ⟨_, rfl⟩, hW, hsame.mono (by decide) (by decide)⟩
  · show Steps p.tables e below (s₁.setTop (mkF m 0 #[.val (.int p1)] [])) _
    refine XS.iloadN X0.here hx rfl (hb hby d19_0) rfl ?_
    show Steps p.tables e below (s₁.setTop (mkF m 1 #[.val (.int p1)] [(.int p1)])) _
    refine XS.bipush X0.here hx rfl (hb hby d19_1) ?_
    show Steps p.tables e below (s₁.setTop (mkF m 3 #[.val (.int p1)] [(.int (-128 : Int32)), (.int p1)])) _
    refine XS.icmpNo X0.here hx rfl (hb hby d19_3) rfl (flt hj.1).1 ?_
    show Steps p.tables e below (s₁.setTop (mkF m 6 #[.val (.int p1)] [])) _
    refine XS.iloadN X0.here hx rfl (hb hby d19_6) rfl ?_
    show Steps p.tables e below (s₁.setTop (mkF m 7 #[.val (.int p1)] [(.int p1)])) _
    refine st1 _ ?_
    show Steps p.tables e below (T1.setTop (mkF m 10 #[.val (.int p1)] [(.int (127 : Int32)), (.int p1)])) _
    refine XS.icmpNo X1.here hx rfl (hb hby d19_10) rfl (flt hj.2.1).2.2.1 ?_
    show Steps p.tables e below (T1.setTop (mkF m 13 #[.val (.int p1)] [])) _
    refine st2 _ ?_
    show Steps p.tables e below (T2.setTop (mkF m 16 #[.val (.int p1)] [(.ref ca)])) _
    refine XS.iloadN X2.here hx rfl (hb hby d19_16) rfl ?_
    show Steps p.tables e below (T2.setTop (mkF m 17 #[.val (.int p1)] [(.int p1), (.ref ca)])) _
    refine XS.sipush X2.here hx rfl (hb hby d19_17) ?_
    show Steps p.tables e below (T2.setTop (mkF m 20 #[.val (.int p1)] [(.int (128 : Int32)), (.int p1), (.ref ca)])) _
    refine XS.iadd X2.here hx rfl (hb hby d19_20) rfl ?_
    show Steps p.tables e below (T2.setTop (mkF m 21 #[.val (.int p1)] [(.int (p1 + (128 : Int32))), (.ref ca)])) _
    refine X2.aaload hx (j := (p1 + (128 : Int32))) (v := (.ref bx)) (by rw [e2]; exact Kc.2.2.1.1) (State.isArrayOf_alike hZ.alike Kc.2.2.1.2.1) rfl Kc.2.2.1.2.2 hin hbx (g := (mkF m 21 #[.val (.int p1)] [(.int (p1 + (128 : Int32))), (.ref ca)])) rfl rfl (hb hby d19_21) _ ?_
    show Steps p.tables e below (T2.setTop (mkF m 22 #[.val (.int p1)] [(.ref bx)])) _
    exact retOut X2 hx Bd.returns rfl (Or.inr (Or.inr (Or.inr (Or.inr ⟨rfl, rfl, rfl⟩)))) (hb hby d19_22) hr
  · show own_Qv Z p1 h0 n0 _ T2.heap _
    rw [e2]
    exact ⟨bx, rfl, N0, rfl, Ebx⟩
theorem pd_13 : parseMethodDescriptor "(I)Ljava/lang/Integer;" = some ⟨[.int], some (.object "java/lang/Integer")⟩ := by decide +kernel
def own_se (ma mb : Addr) (na nb : Int32) : Int32 := if ma = mb then (if na = nb then (1 : Int32) else (0 : Int32)) else (0 : Int32)
def own_Qe (Z : State) (a1 a2 ma mb : Addr) (na nb : Int32) := own_QI (own_se ma mb na nb) Z
def own_Qe0 (Z : State) (a1 : Addr) := own_QI 0 Z
def own_No (Z : State) (C K : String) : Prop := ∃ c t, Z.vm.findClass C = some c ∧ Z.vm.findClass K = some t ∧ Z.vm.assignable c t = false
theorem own_root {Z : State} {a0 : Array Value} {O K : String} {n : Nat} (w : (Jvm.Cond.noSuperclass O).before a0 Z = true) (wk : (Jvm.Cond.instantiable K n).before a0 Z = true) (hn : O ≠ K) : NS Z O K := by
  obtain ⟨c, k, h1, h2, h3, -⟩ := Cond.noSuperclass_spec w
  obtain ⟨t, k2, g1, -⟩ := Cond.instantiable_spec wk
  have ne := ids_ne h1 g1 hn
  refine ⟨c, t, h1, g1, fun fuel => ?_⟩
  cases fuel with
  | zero => rfl
  | succ f => simp [Vm.isSubclassAux, ne, h2, h3]
theorem own_no {Z : State} {a0 : Array Value} {C S K : String} {n : Nat} (w : (Jvm.Cond.superclass C S).before a0 Z = true) (wk : (Jvm.Cond.instantiable K n).before a0 Z = true) (q : NS Z C K) (hn : C ≠ K) : own_No Z C K := by
  obtain ⟨c, t, h0, g0, n3⟩ := q
  obtain ⟨p, k, kp, h1, h2, h3, h4, h5, -⟩ := Cond.superclass_spec h0 w
  obtain ⟨t', k', g1, g2, g3, g4, -⟩ := Cond.instantiable_spec wk
  cases g0.symm.trans g1
  have ne := ids_ne h0 g0 hn
  have gi : k'.isInterface = false := by cases hi : k'.isInterface <;> simp [hi] at g4 ⊢
  refine ⟨c, t, h0, g0, ?_⟩
  show Z.vm.assignableAux (255 + 1) c t = false
  simp [Vm.assignableAux, ne, h2, g2, h5, g3, gi, Vm.isSubclass, n3]
theorem d18_0 : decode prog_69_method_4_code 0 = .ok (.aload_n 1, 1) := by decide +kernel
theorem d18_1 : decode prog_69_method_4_code 1 = .ok (.instanceof 35, 3) := by decide +kernel
theorem d18_4 : decode prog_69_method_4_code 4 = .ok (.ifCond .ne 5, 3) := by decide +kernel
theorem d18_7 : decode prog_69_method_4_code 7 = .ok (.iconst 0, 1) := by decide +kernel
theorem d18_8 : decode prog_69_method_4_code 8 = .ok (.ireturn, 1) := by decide +kernel
theorem d18_9 : decode prog_69_method_4_code 9 = .ok (.aload_n 1, 1) := by decide +kernel
theorem d18_10 : decode prog_69_method_4_code 10 = .ok (.checkcast 35, 3) := by decide +kernel
theorem d18_13 : decode prog_69_method_4_code 13 = .ok (.astore_n 2, 1) := by decide +kernel
theorem d18_14 : decode prog_69_method_4_code 14 = .ok (.aload_n 0, 1) := by decide +kernel
theorem d18_15 : decode prog_69_method_4_code 15 = .ok (.getfield 34, 3) := by decide +kernel
theorem d18_18 : decode prog_69_method_4_code 18 = .ok (.aload_n 2, 1) := by decide +kernel
theorem d18_19 : decode prog_69_method_4_code 19 = .ok (.getfield 34, 3) := by decide +kernel
theorem d18_22 : decode prog_69_method_4_code 22 = .ok (.if_acmp .ne 18, 3) := by decide +kernel
theorem d18_25 : decode prog_69_method_4_code 25 = .ok (.aload_n 0, 1) := by decide +kernel
theorem d18_26 : decode prog_69_method_4_code 26 = .ok (.getfield 39, 3) := by decide +kernel
theorem d18_29 : decode prog_69_method_4_code 29 = .ok (.aload_n 2, 1) := by decide +kernel
theorem d18_30 : decode prog_69_method_4_code 30 = .ok (.getfield 39, 3) := by decide +kernel
theorem d18_33 : decode prog_69_method_4_code 33 = .ok (.if_icmp .ne 7, 3) := by decide +kernel
theorem d18_36 : decode prog_69_method_4_code 36 = .ok (.iconst 1, 1) := by decide +kernel
theorem d18_37 : decode prog_69_method_4_code 37 = .ok (.goto 4, 3) := by decide +kernel
theorem d18_40 : decode prog_69_method_4_code 40 = .ok (.iconst 0, 1) := by decide +kernel
theorem d18_41 : decode prog_69_method_4_code 41 = .ok (.ireturn, 1) := by decide +kernel
theorem pn_18 : plainName "com/example/makespun/makespun/pool/Slot" = true := by first | (simp [plainName, overriddenIn]; done) | decide +kernel
theorem ef_18 (m : MethodId) (x0 : Addr) (x1 : Addr) : entryFrame m #[(.ref x0), (.ref x1)] 3 = mkF m 0 #[.val (.ref x0), .val (.ref x1), .unset] [] := by first | (simp [entryFrame, mkF, argsToLocals, Value.category]; done) | rfl
set_option maxRecDepth 65536 in
set_option maxHeartbeats 40000000 in
theorem rmE (l : Launch) (Z : State) (a0 : Array Value) (hw : ∀ d ∈ tables_1, d.before a0 Z = true) (ws : List Jvm.Cond) (a1 a2 ma mb : Addr) (na nb : Int32) (h0 : Heap) (n0 : Nat) (Z0 : n0 ≤ h0.size) (E2 : Exa Z h0 a2 "com/example/makespun/makespun/pool/Slot") (F1 : Fld Z h0 a1 "com/example/makespun/makespun/pool/Slot" "machine" "Lcom/example/makespun/makespun/pool/Machine;" (.ref ma)) (F2 : Fld Z h0 a1 "com/example/makespun/makespun/pool/Slot" "number" "I" (.int na)) (F3 : Fld Z h0 a2 "com/example/makespun/makespun/pool/Slot" "machine" "Lcom/example/makespun/makespun/pool/Machine;" (.ref mb)) (F4 : Fld Z h0 a2 "com/example/makespun/makespun/pool/Slot" "number" "I" (.int nb)) :
    MetFree l (⟨"com/example/makespun/makespun/pool/Slot", "equals", "(Ljava/lang/Object;)Z"⟩ : MethodName) (head1 (Jvm.Cond.code (⟨"com/example/makespun/makespun/pool/Slot", "equals", "(Ljava/lang/Object;)Z"⟩ : MethodName) prog_69_method_4_code 3 (some .boolean) :: ws) ({ frames := 0, cells := 0, slots := 0, locals := 0 } : Room)) (fun a U => a = #[(.ref a1), (.ref a2)] ∧ Z.Warmed39 U.vm ∧ U.heap = h0) (fun _ _ _ _ _ => True) (fun _ U o U' => ∃ v L, o = .returned v ∧ own_Qe Z a1 a2 ma mb na nb h0 n0 v U'.heap L ∧ FrameEnd U o U' L ({ frames := 0, cells := 0, slots := 0, locals := 0 } : Room).cells ({ frames := 0, cells := 0, slots := 0, locals := 0 } : Room).slots) := by
  refine MetFree.of_bodySF (plainFor_of_name pn_18) hisR ?_
  intro p e s m args below meth c s₁ Bd hml0 hP hK
  obtain ⟨rfl, hZ, hh⟩ := hP
  have hx := Bd.exec
  have hby := Bd.bytes
  have hml : c.maxLocals = 3 := hml0
  have hown : s.vm.findClass "com/example/makespun/makespun/pool/Slot" = some m.cls := findClass_of_methodNamed Bd.named
  have hnm := (name_of_methodNamed Bd.named Bd.method).1
  have X0 : Stand p l e ({ frames := 0, cells := 0, slots := 0, locals := 0 } : Room) s m #[(.ref a1), (.ref a2)] below meth c s₁ [] 0 0 := Stand.of_body Bd
  have e0 : s₁.heap = h0 := by rw [← hh, Bd.state]; rfl
  have N0 := Fr.nil n0
  have pre0 : ∀ tq, Steps p.tables e below (s₁.setTop (mkF m 0 #[.val (.ref a1), .val (.ref a2), .unset] [])) tq → Steps p.tables e below (s₁.setTop (entryFrame m #[(.ref a1), (.ref a2)] 3)) tq := fun tq k => castTop (ef_18 m a1 a2) k
  obtain ⟨T1, X1, e1, st1⟩ := instY X0 hx hZ hown (hw _ (List.mem_of_getElem? (i := 117) rfl)) e0 (Ins.self E2) (g := (mkF m 1 #[.val (.ref a1), .val (.ref a2), .unset] [(.ref a2)])) rfl rfl (hb hby d18_1)
  obtain ⟨T2, X2, e2, st2⟩ := castY X1 hx hZ hown (hw _ (List.mem_of_getElem? (i := 117) rfl)) e1 (Ins.self E2) (g := (mkF m 10 #[.val (.ref a1), .val (.ref a2), .unset] [(.ref a2)])) rfl rfl (hb hby d18_10)
  obtain ⟨T3, X3, e3, st3⟩ := getF X2 hx hZ hown (host := "") (Or.inl (hw _ (List.mem_of_getElem? (i := 108) rfl))) Via.refl e2 F1 (g := (mkF m 15 #[.val (.ref a1), .val (.ref a2), .val (.ref a2)] [(.ref a1)])) rfl rfl (hb hby d18_15)
  obtain ⟨T4, X4, e4, st4⟩ := getF X3 hx hZ hown (host := "") (Or.inl (hw _ (List.mem_of_getElem? (i := 108) rfl))) Via.refl e3 F3 (g := (mkF m 19 #[.val (.ref a1), .val (.ref a2), .val (.ref a2)] [(.ref a2), (.ref ma)])) rfl rfl (hb hby d18_19)
  have k5 : ∀ tq, Steps p.tables e below (T4.setTop (mkF m 22 #[.val (.ref a1), .val (.ref a2), .val (.ref a2)] [(.ref mb), (.ref ma)])) tq → Steps p.tables e below (s₁.setTop (entryFrame m #[(.ref a1), (.ref a2)] 3)) tq := by
    intro tq kt
    refine pre0 tq ?_
    show Steps p.tables e below (s₁.setTop (mkF m 0 #[.val (.ref a1), .val (.ref a2), .unset] [])) _
    refine XS.aloadN X0.here hx rfl (hb hby d18_0) rfl rfl ?_
    show Steps p.tables e below (s₁.setTop (mkF m 1 #[.val (.ref a1), .val (.ref a2), .unset] [(.ref a2)])) _
    refine st1 _ ?_
    show Steps p.tables e below (T1.setTop (mkF m 4 #[.val (.ref a1), .val (.ref a2), .unset] [(.int (1 : Int32))])) _
    refine XS.ifYes X1.here hx rfl (pc0 := 4) (pc' := 9) rfl (hb hby d18_4) rfl ((if0 _ _).trans (feq (by decide : ¬ ((1 : Int32) = (0 : Int32)))).2) (by decide) (by decide) ?_
    show Steps p.tables e below (T1.setTop (mkF m 9 #[.val (.ref a1), .val (.ref a2), .unset] [])) _
    refine XS.aloadN X1.here hx rfl (hb hby d18_9) rfl rfl ?_
    show Steps p.tables e below (T1.setTop (mkF m 10 #[.val (.ref a1), .val (.ref a2), .unset] [(.ref a2)])) _
    refine st2 _ ?_
    show Steps p.tables e below (T2.setTop (mkF m 13 #[.val (.ref a1), .val (.ref a2), .unset] [(.ref a2)])) _
    refine XS.astoreN X2.here hx rfl (hb hby d18_13) rfl rfl (l' := #[.val (.ref a1), .val (.ref a2), .val (.ref a2)]) rfl ?_
    show Steps p.tables e below (T2.setTop (mkF m 14 #[.val (.ref a1), .val (.ref a2), .val (.ref a2)] [])) _
    refine XS.aloadN X2.here hx rfl (hb hby d18_14) rfl rfl ?_
    show Steps p.tables e below (T2.setTop (mkF m 15 #[.val (.ref a1), .val (.ref a2), .val (.ref a2)] [(.ref a1)])) _
    refine st3 _ ?_
    show Steps p.tables e below (T3.setTop (mkF m 18 #[.val (.ref a1), .val (.ref a2), .val (.ref a2)] [(.ref ma)])) _
    refine XS.aloadN X3.here hx rfl (hb hby d18_18) rfl rfl ?_
    show Steps p.tables e below (T3.setTop (mkF m 19 #[.val (.ref a1), .val (.ref a2), .val (.ref a2)] [(.ref a2), (.ref ma)])) _
    refine st4 _ ?_
    exact kt
  by_cases hc6 : ma = mb
  · obtain ⟨T7, X7, e7, st7⟩ := getF X4 hx hZ hown (host := "") (Or.inl (hw _ (List.mem_of_getElem? (i := 110) rfl))) Via.refl e4 F2 (g := (mkF m 26 #[.val (.ref a1), .val (.ref a2), .val (.ref a2)] [(.ref a1)])) rfl rfl (hb hby d18_26)
    obtain ⟨T8, X8, e8, st8⟩ := getF X7 hx hZ hown (host := "") (Or.inl (hw _ (List.mem_of_getElem? (i := 110) rfl))) Via.refl e7 F4 (g := (mkF m 30 #[.val (.ref a1), .val (.ref a2), .val (.ref a2)] [(.ref a2), (.int na)])) rfl rfl (hb hby d18_30)
    have k9 : ∀ tq, Steps p.tables e below (T8.setTop (mkF m 33 #[.val (.ref a1), .val (.ref a2), .val (.ref a2)] [(.int nb), (.int na)])) tq → Steps p.tables e below (s₁.setTop (entryFrame m #[(.ref a1), (.ref a2)] 3)) tq := by
      intro tq kt
      refine k5 tq ?_
      show Steps p.tables e below (T4.setTop (mkF m 22 #[.val (.ref a1), .val (.ref a2), .val (.ref a2)] [(.ref mb), (.ref ma)])) _
      refine Jvm.RoadKit.acmp (g := (mkF m 22 #[.val (.ref a1), .val (.ref a2), .val (.ref a2)] [(.ref mb), (.ref ma)])) X4 hx rfl rfl rfl (pc0 := 22) (pc' := 25) (same := true) rfl (hb hby d18_22) rfl (decide_eq_true (congrArg Value.ref hc6)) (by decide) (by decide) ?_
      show Steps p.tables e below (T4.setTop (mkF m 25 #[.val (.ref a1), .val (.ref a2), .val (.ref a2)] [])) _
      refine XS.aloadN X4.here hx rfl (hb hby d18_25) rfl rfl ?_
      show Steps p.tables e below (T4.setTop (mkF m 26 #[.val (.ref a1), .val (.ref a2), .val (.ref a2)] [(.ref a1)])) _
      refine st7 _ ?_
      show Steps p.tables e below (T7.setTop (mkF m 29 #[.val (.ref a1), .val (.ref a2), .val (.ref a2)] [(.int na)])) _
      refine XS.aloadN X7.here hx rfl (hb hby d18_29) rfl rfl ?_
      show Steps p.tables e below (T7.setTop (mkF m 30 #[.val (.ref a1), .val (.ref a2), .val (.ref a2)] [(.ref a2), (.int na)])) _
      refine st8 _ ?_
      exact kt
    by_cases hc10 : na = nb
    · obtain ⟨fs, hr, hrun, hended, hW, hsame⟩ := X8.leave (v := some (.int (1 : Int32))) (fun h => by rw [Bd.returns] at h; cases h)
      refine ⟨_, _, k9 _ ?_, hrun, hended, _, _, rfl, ?_, ⟨_, rfl⟩, hW, hsame.mono (by decide) (by decide)⟩
      · show Steps p.tables e below (T8.setTop (mkF m 33 #[.val (.ref a1), .val (.ref a2), .val (.ref a2)] [(.int nb), (.int na)])) _
        refine XS.icmpNo X8.here hx rfl (hb hby d18_33) rfl (teq hc10).2 ?_
        show Steps p.tables e below (T8.setTop (mkF m 36 #[.val (.ref a1), .val (.ref a2), .val (.ref a2)] [])) _
        refine XS.iconst X8.here hx rfl (hb hby d18_36) ?_
        show Steps p.tables e below (T8.setTop (mkF m 37 #[.val (.ref a1), .val (.ref a2), .val (.ref a2)] [(.int (1 : Int32))])) _
        refine XS.goto X8.here hx rfl (pc0 := 37) (pc' := 41) rfl (hb hby d18_37) (by decide) (by decide) ?_
        show Steps p.tables e below (T8.setTop (mkF m 41 #[.val (.ref a1), .val (.ref a2), .val (.ref a2)] [(.int (1 : Int32))])) _
        exact retN X8 hx (t := .boolean) Bd.returns (by simp) (hb hby d18_41) hr
      · show own_Qe Z a1 a2 ma mb na nb h0 n0 _ T8.heap _
        rw [e8]
        exact ⟨congrArg (fun z => some (Value.int z)) (show (1 : Int32) = own_se ma mb na nb from by unfold own_se; rw [if_pos hc6]; rw [if_pos hc10]), N0, rfl⟩
    · obtain ⟨fs, hr, hrun, hended, hW, hsame⟩ := X8.leave (v := some (.int (0 : Int32))) (fun h => by rw [Bd.returns] at h; cases h)
      refine ⟨_, _, k9 _ ?_, hrun, hended, _, _, rfl, ?_, ⟨_, rfl⟩, hW, hsame.mono (by decide) (by decide)⟩
      · show Steps p.tables e below (T8.setTop (mkF m 33 #[.val (.ref a1), .val (.ref a2), .val (.ref a2)] [(.int nb), (.int na)])) _
        refine XS.icmpYes X8.here hx rfl (pc0 := 33) (pc' := 40) rfl (hb hby d18_33) rfl (feq hc10).2 (by decide) (by decide) ?_
        show Steps p.tables e below (T8.setTop (mkF m 40 #[.val (.ref a1), .val (.ref a2), .val (.ref a2)] [])) _
        refine XS.iconst X8.here hx rfl (hb hby d18_40) ?_
        show Steps p.tables e below (T8.setTop (mkF m 41 #[.val (.ref a1), .val (.ref a2), .val (.ref a2)] [(.int (0 : Int32))])) _
        exact retN X8 hx (t := .boolean) Bd.returns (by simp) (hb hby d18_41) hr
      · show own_Qe Z a1 a2 ma mb na nb h0 n0 _ T8.heap _
        rw [e8]
        exact ⟨congrArg (fun z => some (Value.int z)) (show (0 : Int32) = own_se ma mb na nb from by unfold own_se; rw [if_pos hc6]; rw [if_neg hc10]), N0, rfl⟩
  · obtain ⟨fs, hr, hrun, hended, hW, hsame⟩ := X4.leave (v := some (.int (0 : Int32))) (fun h => by rw [Bd.returns] at h; cases h)
    refine ⟨_, _, k5 _ ?_, hrun, hended, _, _, rfl, ?_, ⟨_, rfl⟩, hW, hsame.mono (by decide) (by decide)⟩
    · show Steps p.tables e below (T4.setTop (mkF m 22 #[.val (.ref a1), .val (.ref a2), .val (.ref a2)] [(.ref mb), (.ref ma)])) _
      refine Jvm.RoadKit.acmp (g := (mkF m 22 #[.val (.ref a1), .val (.ref a2), .val (.ref a2)] [(.ref mb), (.ref ma)])) X4 hx rfl rfl rfl (pc0 := 22) (pc' := 40) (same := false) rfl (hb hby d18_22) rfl (decide_eq_false fun q => hc6 (Value.ref.inj q)) (by decide) (by decide) ?_
      show Steps p.tables e below (T4.setTop (mkF m 40 #[.val (.ref a1), .val (.ref a2), .val (.ref a2)] [])) _
      refine XS.iconst X4.here hx rfl (hb hby d18_40) ?_
      show Steps p.tables e below (T4.setTop (mkF m 41 #[.val (.ref a1), .val (.ref a2), .val (.ref a2)] [(.int (0 : Int32))])) _
      exact retN X4 hx (t := .boolean) Bd.returns (by simp) (hb hby d18_41) hr
    · show own_Qe Z a1 a2 ma mb na nb h0 n0 _ T4.heap _
      rw [e4]
      exact ⟨congrArg (fun z => some (Value.int z)) (show (0 : Int32) = own_se ma mb na nb from by unfold own_se; rw [if_neg hc6]), N0, rfl⟩
theorem ef_18_vn (m : MethodId) (x0 : Addr) : entryFrame m #[(.ref x0), .null] 3 = mkF m 0 #[.val (.ref x0), .val .null, .unset] [] := by first | (simp [entryFrame, mkF, argsToLocals, Value.category]; done) | rfl
set_option maxRecDepth 65536 in
set_option maxHeartbeats 40000000 in
theorem rmEn (l : Launch) (Z : State) (a0 : Array Value) (hw : ∀ d ∈ tables_1, d.before a0 Z = true) (ws : List Jvm.Cond) (a1 : Addr) (h0 : Heap) (n0 : Nat) (Z0 : n0 ≤ h0.size) :
    MetFree l (⟨"com/example/makespun/makespun/pool/Slot", "equals", "(Ljava/lang/Object;)Z"⟩ : MethodName) (head1 (Jvm.Cond.code (⟨"com/example/makespun/makespun/pool/Slot", "equals", "(Ljava/lang/Object;)Z"⟩ : MethodName) prog_69_method_4_code 3 (some .boolean) :: ws) ({ frames := 0, cells := 0, slots := 0, locals := 0 } : Room)) (fun a U => a = #[(.ref a1), .null] ∧ Z.Warmed39 U.vm ∧ U.heap = h0) (fun _ _ _ _ _ => True) (fun _ U o U' => ∃ v L, o = .returned v ∧ own_Qe0 Z a1 h0 n0 v U'.heap L ∧ FrameEnd U o U' L ({ frames := 0, cells := 0, slots := 0, locals := 0 } : Room).cells ({ frames := 0, cells := 0, slots := 0, locals := 0 } : Room).slots) := by
  refine MetFree.of_bodySF (plainFor_of_name pn_18) hisR ?_
  intro p e s m args below meth c s₁ Bd hml0 hP hK
  obtain ⟨rfl, hZ, hh⟩ := hP
  have hx := Bd.exec
  have hby := Bd.bytes
  have hml : c.maxLocals = 3 := hml0
  have hown : s.vm.findClass "com/example/makespun/makespun/pool/Slot" = some m.cls := findClass_of_methodNamed Bd.named
  have hnm := (name_of_methodNamed Bd.named Bd.method).1
  have X0 : Stand p l e ({ frames := 0, cells := 0, slots := 0, locals := 0 } : Room) s m #[(.ref a1), .null] below meth c s₁ [] 0 0 := Stand.of_body Bd
  have e0 : s₁.heap = h0 := by rw [← hh, Bd.state]; rfl
  have N0 := Fr.nil n0
  have pre0 : ∀ tq, Steps p.tables e below (s₁.setTop (mkF m 0 #[.val (.ref a1), .val .null, .unset] [])) tq → Steps p.tables e below (s₁.setTop (entryFrame m #[(.ref a1), .null] 3)) tq := fun tq k => castTop (ef_18_vn m a1) k
  obtain ⟨fs, hr, hrun, hended, hW, hsame⟩ := X0.leave (v := some (.int (0 : Int32))) (fun h => by rw [Bd.returns] at h; cases h)
  refine ⟨_, _, pre0 _ ?_, hrun, hended, _, _, rfl, ?_, ⟨_, rfl⟩, hW, hsame.mono (by decide) (by decide)⟩
  · show Steps p.tables e below (s₁.setTop (mkF m 0 #[.val (.ref a1), .val .null, .unset] [])) _
    refine XS.aloadN X0.here hx rfl (hb hby d18_0) rfl rfl ?_
    show Steps p.tables e below (s₁.setTop (mkF m 1 #[.val (.ref a1), .val .null, .unset] [.null])) _
    refine X0.instanceofNull hx (g := (mkF m 1 #[.val (.ref a1), .val .null, .unset] [.null])) rfl rfl (hb hby d18_1) _ ?_
    show Steps p.tables e below (s₁.setTop (mkF m 4 #[.val (.ref a1), .val .null, .unset] [(.int (0 : Int32))])) _
    refine XS.ifNo X0.here hx rfl (hb hby d18_4) rfl ((if0 _ _).trans (teq (by decide : ((0 : Int32) = (0 : Int32)))).2) ?_
    show Steps p.tables e below (s₁.setTop (mkF m 7 #[.val (.ref a1), .val .null, .unset] [])) _
    refine XS.iconst X0.here hx rfl (hb hby d18_7) ?_
    show Steps p.tables e below (s₁.setTop (mkF m 8 #[.val (.ref a1), .val .null, .unset] [(.int (0 : Int32))])) _
    exact retN X0 hx (t := .boolean) Bd.returns (by simp) (hb hby d18_8) hr
  · show own_Qe0 Z a1 h0 n0 _ s₁.heap _
    rw [e0]
    exact ⟨rfl, N0, rfl⟩
set_option maxRecDepth 65536 in
set_option maxHeartbeats 40000000 in
theorem rmEm (l : Launch) (Z : State) (a0 : Array Value) (hw : ∀ d ∈ tables_1, d.before a0 Z = true) (ws : List Jvm.Cond) (a1 a2 : Addr) (h0 : Heap) (n0 : Nat) (Z0 : n0 ≤ h0.size) (E2 : Exa Z h0 a2 "com/example/makespun/makespun/pool/Machine") (hno : own_No Z "com/example/makespun/makespun/pool/Machine" "com/example/makespun/makespun/pool/Slot") :
    MetFree l (⟨"com/example/makespun/makespun/pool/Slot", "equals", "(Ljava/lang/Object;)Z"⟩ : MethodName) (head1 (Jvm.Cond.code (⟨"com/example/makespun/makespun/pool/Slot", "equals", "(Ljava/lang/Object;)Z"⟩ : MethodName) prog_69_method_4_code 3 (some .boolean) :: ws) ({ frames := 0, cells := 0, slots := 0, locals := 0 } : Room)) (fun a U => a = #[(.ref a1), (.ref a2)] ∧ Z.Warmed39 U.vm ∧ U.heap = h0) (fun _ _ _ _ _ => True) (fun _ U o U' => ∃ v L, o = .returned v ∧ own_Qe0 Z a1 h0 n0 v U'.heap L ∧ FrameEnd U o U' L ({ frames := 0, cells := 0, slots := 0, locals := 0 } : Room).cells ({ frames := 0, cells := 0, slots := 0, locals := 0 } : Room).slots) := by
  refine MetFree.of_bodySF (plainFor_of_name pn_18) hisR ?_
  intro p e s m args below meth c s₁ Bd hml0 hP hK
  obtain ⟨rfl, hZ, hh⟩ := hP
  have hx := Bd.exec
  have hby := Bd.bytes
  have hml : c.maxLocals = 3 := hml0
  have hown : s.vm.findClass "com/example/makespun/makespun/pool/Slot" = some m.cls := findClass_of_methodNamed Bd.named
  have hnm := (name_of_methodNamed Bd.named Bd.method).1
  have X0 : Stand p l e ({ frames := 0, cells := 0, slots := 0, locals := 0 } : Room) s m #[(.ref a1), (.ref a2)] below meth c s₁ [] 0 0 := Stand.of_body Bd
  have e0 : s₁.heap = h0 := by rw [← hh, Bd.state]; rfl
  have N0 := Fr.nil n0
  have pre0 : ∀ tq, Steps p.tables e below (s₁.setTop (mkF m 0 #[.val (.ref a1), .val (.ref a2), .unset] [])) tq → Steps p.tables e below (s₁.setTop (entryFrame m #[(.ref a1), (.ref a2)] 3)) tq := fun tq k => castTop (ef_18 m a1 a2) k
  obtain ⟨T1, X1, e1, st1⟩ := instNo X0 hx hZ hown (hw _ (List.mem_of_getElem? (i := 117) rfl)) e0 E2 hno (g := (mkF m 1 #[.val (.ref a1), .val (.ref a2), .unset] [(.ref a2)])) rfl rfl (hb hby d18_1)
  obtain ⟨fs, hr, hrun, hended, hW, hsame⟩ := X1.leave (v := some (.int (0 : Int32))) (fun h => by rw [Bd.returns] at h; cases h)
  refine ⟨_, _, pre0 _ ?_, hrun, hended, _, _, rfl, ?_, ⟨_, rfl⟩, hW, hsame.mono (by decide) (by decide)⟩
  · show Steps p.tables e below (s₁.setTop (mkF m 0 #[.val (.ref a1), .val (.ref a2), .unset] [])) _
    refine XS.aloadN X0.here hx rfl (hb hby d18_0) rfl rfl ?_
    show Steps p.tables e below (s₁.setTop (mkF m 1 #[.val (.ref a1), .val (.ref a2), .unset] [(.ref a2)])) _
    refine st1 _ ?_
    show Steps p.tables e below (T1.setTop (mkF m 4 #[.val (.ref a1), .val (.ref a2), .unset] [(.int (0 : Int32))])) _
    refine XS.ifNo X1.here hx rfl (hb hby d18_4) rfl ((if0 _ _).trans (teq (by decide : ((0 : Int32) = (0 : Int32)))).2) ?_
    show Steps p.tables e below (T1.setTop (mkF m 7 #[.val (.ref a1), .val (.ref a2), .unset] [])) _
    refine XS.iconst X1.here hx rfl (hb hby d18_7) ?_
    show Steps p.tables e below (T1.setTop (mkF m 8 #[.val (.ref a1), .val (.ref a2), .unset] [(.int (0 : Int32))])) _
    exact retN X1 hx (t := .boolean) Bd.returns (by simp) (hb hby d18_8) hr
  · show own_Qe0 Z a1 h0 n0 _ T1.heap _
    rw [e1]
    exact ⟨rfl, N0, rfl⟩
set_option maxRecDepth 65536 in
set_option maxHeartbeats 40000000 in
theorem rmEi (l : Launch) (Z : State) (a0 : Array Value) (hw : ∀ d ∈ tables_1, d.before a0 Z = true) (ws : List Jvm.Cond) (a1 a2 : Addr) (h0 : Heap) (n0 : Nat) (Z0 : n0 ≤ h0.size) (E2 : Exa Z h0 a2 "java/lang/Integer") (hno : own_No Z "java/lang/Integer" "com/example/makespun/makespun/pool/Slot") :
    MetFree l (⟨"com/example/makespun/makespun/pool/Slot", "equals", "(Ljava/lang/Object;)Z"⟩ : MethodName) (head1 (Jvm.Cond.code (⟨"com/example/makespun/makespun/pool/Slot", "equals", "(Ljava/lang/Object;)Z"⟩ : MethodName) prog_69_method_4_code 3 (some .boolean) :: ws) ({ frames := 0, cells := 0, slots := 0, locals := 0 } : Room)) (fun a U => a = #[(.ref a1), (.ref a2)] ∧ Z.Warmed39 U.vm ∧ U.heap = h0) (fun _ _ _ _ _ => True) (fun _ U o U' => ∃ v L, o = .returned v ∧ own_Qe0 Z a1 h0 n0 v U'.heap L ∧ FrameEnd U o U' L ({ frames := 0, cells := 0, slots := 0, locals := 0 } : Room).cells ({ frames := 0, cells := 0, slots := 0, locals := 0 } : Room).slots) := by
  refine MetFree.of_bodySF (plainFor_of_name pn_18) hisR ?_
  intro p e s m args below meth c s₁ Bd hml0 hP hK
  obtain ⟨rfl, hZ, hh⟩ := hP
  have hx := Bd.exec
  have hby := Bd.bytes
  have hml : c.maxLocals = 3 := hml0
  have hown : s.vm.findClass "com/example/makespun/makespun/pool/Slot" = some m.cls := findClass_of_methodNamed Bd.named
  have hnm := (name_of_methodNamed Bd.named Bd.method).1
  have X0 : Stand p l e ({ frames := 0, cells := 0, slots := 0, locals := 0 } : Room) s m #[(.ref a1), (.ref a2)] below meth c s₁ [] 0 0 := Stand.of_body Bd
  have e0 : s₁.heap = h0 := by rw [← hh, Bd.state]; rfl
  have N0 := Fr.nil n0
  have pre0 : ∀ tq, Steps p.tables e below (s₁.setTop (mkF m 0 #[.val (.ref a1), .val (.ref a2), .unset] [])) tq → Steps p.tables e below (s₁.setTop (entryFrame m #[(.ref a1), (.ref a2)] 3)) tq := fun tq k => castTop (ef_18 m a1 a2) k
  obtain ⟨T1, X1, e1, st1⟩ := instNo X0 hx hZ hown (hw _ (List.mem_of_getElem? (i := 117) rfl)) e0 E2 hno (g := (mkF m 1 #[.val (.ref a1), .val (.ref a2), .unset] [(.ref a2)])) rfl rfl (hb hby d18_1)
  obtain ⟨fs, hr, hrun, hended, hW, hsame⟩ := X1.leave (v := some (.int (0 : Int32))) (fun h => by rw [Bd.returns] at h; cases h)
  refine ⟨_, _, pre0 _ ?_, hrun, hended, _, _, rfl, ?_, ⟨_, rfl⟩, hW, hsame.mono (by decide) (by decide)⟩
  · show Steps p.tables e below (s₁.setTop (mkF m 0 #[.val (.ref a1), .val (.ref a2), .unset] [])) _
    refine XS.aloadN X0.here hx rfl (hb hby d18_0) rfl rfl ?_
    show Steps p.tables e below (s₁.setTop (mkF m 1 #[.val (.ref a1), .val (.ref a2), .unset] [(.ref a2)])) _
    refine st1 _ ?_
    show Steps p.tables e below (T1.setTop (mkF m 4 #[.val (.ref a1), .val (.ref a2), .unset] [(.int (0 : Int32))])) _
    refine XS.ifNo X1.here hx rfl (hb hby d18_4) rfl ((if0 _ _).trans (teq (by decide : ((0 : Int32) = (0 : Int32)))).2) ?_
    show Steps p.tables e below (T1.setTop (mkF m 7 #[.val (.ref a1), .val (.ref a2), .unset] [])) _
    refine XS.iconst X1.here hx rfl (hb hby d18_7) ?_
    show Steps p.tables e below (T1.setTop (mkF m 8 #[.val (.ref a1), .val (.ref a2), .unset] [(.int (0 : Int32))])) _
    exact retN X1 hx (t := .boolean) Bd.returns (by simp) (hb hby d18_8) hr
  · show own_Qe0 Z a1 h0 n0 _ T1.heap _
    rw [e1]
    exact ⟨rfl, N0, rfl⟩
theorem pd_14 : parseMethodDescriptor "(Ljava/lang/Object;)Z" = some ⟨[(.object "java/lang/Object")], some .boolean⟩ := by decide +kernel
theorem own_co (x : Int32) : ¬ ((x &&& (7 : Int32)) + (1 : Int32)) < (1 : Int32) ∧ ((x &&& (7 : Int32)) + (1 : Int32)) < (9 : Int32) := by
  have e : (x &&& (7 : Int32)).toInt = x.toInt % 2 ^ 3 := Jvm.Kit.i32_mask x 7 (k := 3) (by decide) (by decide)
  have z1 : (1 : Int32).toInt = 1 := by decide
  have z9 : (9 : Int32).toInt = 9 := by decide
  have e2 : ((x &&& (7 : Int32)) + (1 : Int32)).toInt = (x &&& (7 : Int32)).toInt + (1 : Int32).toInt := Jvm.Kit.i32_add (by omega) (by omega)
  constructor <;> rw [Int32.lt_iff_toInt_lt] <;> omega
theorem own_rem {co : Int32} (x : Int32) (h1 : ¬ co < (1 : Int32)) (h9 : co < (9 : Int32)) : ¬ ((x &&& (2147483647 : Int32)) % co) < (0 : Int32) ∧ ((x &&& (2147483647 : Int32)) % co) < co ∧ ((x &&& (2147483647 : Int32)) % co) < (9 : Int32) := by
  have nn : ¬ (x &&& (2147483647 : Int32)) < 0 := fun q => absurd ((Jvm.Free.XT.and_neg32 _ _).mp q).2 (by decide)
  rw [Jvm.Free.XT.negI32] at nn
  have e : ((x &&& (2147483647 : Int32)) % co).toInt = (x &&& (2147483647 : Int32)).toInt.tmod co.toInt := Int32.toInt_mod _ _
  rw [Int.tmod_eq_emod_of_nonneg (by omega)] at e
  rw [Int32.lt_iff_toInt_lt] at h1 h9
  have z1 : (1 : Int32).toInt = 1 := by decide
  have z9 : (9 : Int32).toInt = 9 := by decide
  have z0 : (0 : Int32).toInt = 0 := by decide
  have a := Int.emod_nonneg (x &&& (2147483647 : Int32)).toInt (b := co.toInt) (by omega)
  have b := Int.emod_lt_of_pos (x &&& (2147483647 : Int32)).toInt (b := co.toInt) (by omega)
  refine ⟨?_, ?_, ?_⟩ <;> rw [Int32.lt_iff_toInt_lt] <;> omega
def own_Q0 (Z : State) (ic i1 i2 ip ik : Int32) (h0 : Heap) (n0 : Nat) (v : Option Value) (h : Heap) (L : List Loc) : Prop := v = some (.int 1) ∧ Fr n0 L
theorem pn_0 : plainName "com/example/makespun/makespun/pool/SlotEqualsPinLaw" = true := by first | (simp [plainName, overriddenIn]; done) | decide +kernel
theorem ef_0 (m : MethodId) (x0 : Int32) (x1 : Int32) (x2 : Int32) (x3 : Int32) (x4 : Int32) : entryFrame m #[(.int x0), (.int x1), (.int x2), (.int x3), (.int x4)] maxLocals = mkF m 0 #[.val (.int x0), .val (.int x1), .val (.int x2), .val (.int x3), .val (.int x4), .unset, .unset, .unset, .unset, .unset, .unset, .unset, .unset, .unset, .unset, .unset] [] := by first | (simp [entryFrame, mkF, argsToLocals, Value.category, maxLocals]; done) | rfl
set_option maxRecDepth 65536 in
set_option maxHeartbeats 40000000 in
theorem rm0_1 (l : Launch) (Z : State) (a0 : Array Value) (hw : ∀ d ∈ tables_1, d.before a0 Z = true) (ws : List Jvm.Cond) (ic i1 i2 ip ik : Int32) (w : Int32) (ci cA : Addr) (clA : Cell) (ca : Addr) (cl : Cell) (h0 : Heap) (n0 : Nat) (Z0 : n0 ≤ h0.size) (J : own_J Z h0 w ci cA clA) (Kc : own_K Z h0 ca cl) (hot : ¬ (ip &&& (1 : Int32)) = (0 : Int32)) :
    MetFree l x (head1 (Jvm.Cond.code x code maxLocals ret :: ws) room_1) (fun a U => a = #[(.int ic), (.int i1), (.int i2), (.int ip), (.int ik)] ∧ Z.Warmed39 U.vm ∧ U.heap = h0 ∧ CHv Z own_EL U.vm h0) (fun _ _ _ _ _ => True) (fun _ U o U' => ∃ v L, o = .returned v ∧ own_Q0 Z ic i1 i2 ip ik h0 n0 v U'.heap L ∧ CHr Z own_EL U.vm U.heap U'.vm U'.heap ∧ ReturnedEndW U o U' L room_1.cells room_1.slots) := by
  refine MetFree.of_bodySF (plainFor_of_name pn_0) hisR ?_
  intro p e s m args below meth c s₁ Bd hml0 hP hK
  obtain ⟨rfl, hZ, hh, hCH⟩ := hP
  have hx := Bd.exec
  have hby := Bd.bytes
  have hml : c.maxLocals = 16 := hml0
  have hown : s.vm.findClass "com/example/makespun/makespun/pool/SlotEqualsPinLaw" = some m.cls := findClass_of_methodNamed Bd.named
  have hnm := (name_of_methodNamed Bd.named Bd.method).1
  have X0 : Stand p l e room_1 (s.setVm s.vm) m #[(.int ic), (.int i1), (.int i2), (.int ip), (.int ik)] below meth c s₁ [] 0 0 := Stand.of_body Bd
  have e0 : s₁.heap = h0 := by rw [← hh, Bd.state]; rfl
  have N0 := Fr.nil n0
  have pre0 : ∀ tq, Steps p.tables e below (s₁.setTop (mkF m 0 #[.val (.int ic), .val (.int i1), .val (.int i2), .val (.int ip), .val (.int ik), .unset, .unset, .unset, .unset, .unset, .unset, .unset, .unset, .unset, .unset, .unset] [])) tq → Steps p.tables e below (s₁.setTop (entryFrame m #[(.int ic), (.int i1), (.int i2), (.int ip), (.int ik)] maxLocals)) tq := fun tq k => castTop (ef_0 m ic i1 i2 ip ik) k
  have hS0 : s.Since s.vm 0 := (State.WarmedH.refl s).since 0
  have R0 := CHr.refl hCH
  have hEL := own_ew hw
  have hnom : own_No Z "com/example/makespun/makespun/pool/Machine" "com/example/makespun/makespun/pool/Slot" := own_no (hw _ (List.mem_of_getElem? (i := 119) rfl)) (hw _ (List.mem_of_getElem? (i := 95) rfl)) (NS.step (hw _ (List.mem_of_getElem? (i := 119) rfl)) (own_root (hw _ (List.mem_of_getElem? (i := 120) rfl)) (hw _ (List.mem_of_getElem? (i := 95) rfl)) (by decide)) (by decide)) (by decide)
  have hnoi : own_No Z "java/lang/Integer" "com/example/makespun/makespun/pool/Slot" := own_no (hw _ (List.mem_of_getElem? (i := 128) rfl)) (hw _ (List.mem_of_getElem? (i := 95) rfl)) (NS.step (hw _ (List.mem_of_getElem? (i := 128) rfl)) (NS.step (hw _ (List.mem_of_getElem? (i := 129) rfl)) (own_root (hw _ (List.mem_of_getElem? (i := 120) rfl)) (hw _ (List.mem_of_getElem? (i := 95) rfl)) (by decide)) (by decide)) (by decide)) (by decide)
  have k1 : ∀ tq, Steps p.tables e below (s₁.setTop (mkF m 8 #[.val (.int ic), .val (.int i1), .val (.int i2), .val (.int ip), .val (.int ik), .val (.int ((ic &&& (7 : Int32)) + (1 : Int32))), .unset, .unset, .unset, .unset, .unset, .unset, .unset, .unset, .unset, .unset] [])) tq → Steps p.tables e below (s₁.setTop (entryFrame m #[(.int ic), (.int i1), (.int i2), (.int ip), (.int ik)] maxLocals)) tq := by
    intro tq kt
    refine pre0 tq ?_
    refine XS.iloadN X0.here hx rfl (hb hby at_0) rfl ?_
    refine XS.bipush X0.here hx rfl (hb hby at_1) ?_
    refine XS.iand X0.here hx rfl (hb hby at_3) rfl ?_
    refine XS.iconst X0.here hx rfl (hb hby at_4) ?_
    show Steps p.tables e below (s₁.setTop (mkF m 5 #[.val (.int ic), .val (.int i1), .val (.int i2), .val (.int ip), .val (.int ik), .unset, .unset, .unset, .unset, .unset, .unset, .unset, .unset, .unset, .unset, .unset] [(.int (1 : Int32)), (.int (ic &&& (7 : Int32)))])) _
    refine XS.iadd X0.here hx rfl (hb hby at_5) rfl ?_
    refine XS.istore X0.here hx rfl (hb hby at_6) rfl (l' := #[.val (.int ic), .val (.int i1), .val (.int i2), .val (.int ip), .val (.int ik), .val (.int ((ic &&& (7 : Int32)) + (1 : Int32))), .unset, .unset, .unset, .unset, .unset, .unset, .unset, .unset, .unset, .unset]) rfl ?_
    exact kt
  obtain ⟨co, hcoe⟩ : ∃ z : Int32, z = ((ic &&& (7 : Int32)) + (1 : Int32)) := ⟨_, rfl⟩
  have k2 : ∀ tq, Steps p.tables e below (s₁.setTop (mkF m 8 #[.val (.int ic), .val (.int i1), .val (.int i2), .val (.int ip), .val (.int ik), .val (.int co), .unset, .unset, .unset, .unset, .unset, .unset, .unset, .unset, .unset, .unset] [])) tq → Steps p.tables e below (s₁.setTop (entryFrame m #[(.int ic), (.int i1), (.int i2), (.int ip), (.int ik)] maxLocals)) tq := by
    intro tq kt
    subst hcoe
    exact k1 tq kt
  obtain ⟨hco, hco9⟩ := own_co ic
  rw [← hcoe] at hco hco9
  have hc0 : co ≠ 0 := fun q => by subst q; exact absurd hco (by decide)
  obtain ⟨T3, h3, X3, e3, E3, A3, D3, U3, st3⟩ := newO X0 hx hZ hown (hw _ (List.mem_of_getElem? (i := 0) rfl)) (hw _ (List.mem_of_getElem? (i := 1) rfl)) (hw _ (List.mem_of_getElem? (i := 2) rfl)) e0 (g := (mkF m 8 #[.val (.int ic), .val (.int i1), .val (.int i2), .val (.int ip), .val (.int ik), .val (.int co), .unset, .unset, .unset, .unset, .unset, .unset, .unset, .unset, .unset, .unset] [])) rfl (hb hby at_8) (by decide) (by decide)
  obtain ⟨b3, g3⟩ : ∃ z, z = h0.size := ⟨_, rfl⟩
  rw [← g3] at A3 D3 U3 st3
  have g_b3 : n0 ≤ b3 := Nat.le_trans Z0 (Nat.le_of_eq g3.symm)
  have sz_b3 : h0.size ≤ b3 := Nat.le_trans (Keep.refl h0 []).1 (Nat.le_of_eq g3.symm)
  have z4 := Nat.le_trans Z0 E3.1
  have kp5 := (Keep.refl h0 []).ext E3
  have R6 := CHr.trans R0 (CHr.ext E3 R0.1)
  have hk7 := Nat.le_trans (Nat.zero_le _) E3.1
  have F_name_b3 : Fld Z h3 b3 "com/example/makespun/makespun/pool/Machine" "name" "Ljava/lang/String;" .null := D3 (Or.inr (hw _ (List.mem_of_getElem? (i := 84) rfl))) (ty := (.object "java/lang/String")) (by decide)
  have F_speed_b3 : Fld Z h3 b3 "com/example/makespun/makespun/pool/Machine" "speed" "D" (.double (0 : UInt64)) := D3 (Or.inr (hw _ (List.mem_of_getElem? (i := 86) rfl))) (ty := .double) (by decide)
  have F_cores_b3 : Fld Z h3 b3 "com/example/makespun/makespun/pool/Machine" "cores" "I" (.int (0 : Int32)) := D3 (Or.inr (hw _ (List.mem_of_getElem? (i := 88) rfl))) (ty := .int) (by decide)
  have F_pricePerHour_b3 : Fld Z h3 b3 "com/example/makespun/makespun/pool/Machine" "pricePerHour" "D" (.double (0 : UInt64)) := D3 (Or.inr (hw _ (List.mem_of_getElem? (i := 90) rfl))) (ty := .double) (by decide)
  have F_storageBytes_b3 : Fld Z h3 b3 "com/example/makespun/makespun/pool/Machine" "storageBytes" "J" (.long (0 : Int64)) := D3 (Or.inr (hw _ (List.mem_of_getElem? (i := 92) rfl))) (ty := .long) (by decide)
  obtain ⟨xa8, T8, h8, n8, xb8, kb8, X8, e8, E8, hS8, hk8, hZ8, hown8, Ex8, Fc8, Fv8, Vb8, la8, lb8, C8, li8, ne8, st8⟩ := ldcCH X3 hx hZ hown (hw _ (List.mem_of_getElem? (i := 3) rfl)) (own_sa hw) e3 hS0 hk7 hEL (List.mem_of_getElem? (i := 0) rfl) R6.1 (vs := [(.int (97 : Int32))]) (z := (1 : Int32)) (by decide) (by decide) rfl (g := (mkF m 12 #[.val (.int ic), .val (.int i1), .val (.int i2), .val (.int ip), .val (.int ik), .val (.int co), .unset, .unset, .unset, .unset, .unset, .unset, .unset, .unset, .unset, .unset] [(.ref b3), (.ref b3)])) rfl (hb hby at_12) (n := 4) (by decide) (by decide) (by decide) (by decide)
  have f9 := A3.ext E8
  have f10 := F_name_b3.ext E8
  have f11 := F_speed_b3.ext E8
  have f12 := F_cores_b3.ext E8
  have f13 := F_pricePerHour_b3.ext E8
  have f14 := F_storageBytes_b3.ext E8
  have z15 := Nat.le_trans z4 E8.1
  have kp16 := kp5.ext E8
  have R17 := CHr.trans R6 C8
  have ne_b3_xa8 : b3 ≠ xa8 := (ne8 _ (Safe.exa (EL := own_EL) hZ8.alike f9 (by decide) (by decide))).1
  have ne_b3_xb8 : b3 ≠ xb8 := (ne8 _ (Safe.exa (EL := own_EL) hZ8.alike f9 (by decide) (by decide))).2
  obtain ⟨_, _, ⟨T18, L18, k18, n18⟩, -, X18, hT18, hG18, ⟨Lc18, hQ18, l18, y18, z18, C18⟩, st18⟩ := X8.specialBackS hx (y := (⟨"com/example/makespun/makespun/pool/Machine", "<init>", "(Ljava/lang/String;DIDJ)V"⟩ : MethodName)) rfl hown8 (mvT hZ8 (hw _ (List.mem_of_getElem? (i := 11) rfl))) (mvT hZ8 (hw _ (List.mem_of_getElem? (i := 12) rfl))) (mvT hZ8 (hw _ (List.mem_of_getElem? (i := 13) rfl))) (by decide) (backOfSH (W := 1) (rmM l Z a0 hw [] b3 xa8 co xb8 kb8 w ci cA clA h8 n0 z15 f9 f10 f11 f12 f13 f14 g_b3 ⟨Ex8, Fc8, Fv8, Vb8⟩ (J.keep kp16) hco) hZ8 (hw _ (List.mem_of_getElem? (i := 13) rfl)) (hw _ (List.mem_of_getElem? (i := 2) rfl)) (by decide) (by decide) hEL R17.1) (g := (mkF m 19 #[.val (.int ic), .val (.int i1), .val (.int i2), .val (.int ip), .val (.int ik), .val (.int co), .unset, .unset, .unset, .unset, .unset, .unset, .unset, .unset, .unset, .unset] [(.long (0 : Int64)), (.double FP.dconst0), (.int co), (.double FP.dconst1), (.ref xa8), (.ref b3), (.ref b3)])) rfl (by rw [hml]; rfl) (Steps.refl _) (a := b3) (argsL := [(.ref xa8), (.double FP.dconst1), (.int co), (.double FP.dconst0), (.long (0 : Int64))]) (rest := [(.ref b3)]) (lenOf pd_11 rfl) rfl (by show 2 * 0 + _ ≤ _; exact Nat.le_of_eq rfl) (hb hby at_19) (fun _ _ => ⟨rfl, e8, (by decide : 3 + 4 ≤ _), (by decide : 13 + 52 ≤ _)⟩)
  dsimp only [Pt.U, Pt.locs, Pt.cells, Pt.slots] at X18 l18 y18 z18 st18 hQ18 hT18 hG18 C18
  subst l18 y18 z18
  have hS18 := foldS (T := T8) hS8 (by rw [e8]; exact hk8) hT18 hG18
  have hZ18 : Z.Warmed39 T18.vm := State.Warmed39.trans (t := s.setVm T8.vm) hZ8 hT18.1
  have hown18 : T18.vm.findClass "com/example/makespun/makespun/pool/SlotEqualsPinLaw" = some m.cls := by rw [hT18.1.alike.findClass]; exact hown8
  have X18r : Stand p l e _ (s.setVm T18.vm) m _ below meth c T18 _ _ _ := X18
  obtain ⟨rfl, N18q, K18, Eo18, Fk18⟩ := hQ18
  have N18 := Fr.app N0 N18q
  have R19 := CHr.trans R17 C18
  have f20 := f9.keep K18
  have f21 := Ex8.keep K18
  have f22 := Fc8.keep K18 (ninS (Ne.symm ne_b3_xa8) nin0)
  have f23 := Fv8.keep K18 (ninS (Ne.symm ne_b3_xa8) nin0)
  have f24 := Vb8.keep K18 (ninS (Ne.symm ne_b3_xb8) nin0)
  have z25 := Nat.le_trans z15 K18.1
  have kp26 := Keep.trans kp16 K18 (allS (Or.inr sz_b3) all0)
  obtain ⟨T27, h27, X27, e27, E27, A27, D27, U27, st27⟩ := newO X18r hx hZ18 hown18 (hw _ (List.mem_of_getElem? (i := 0) rfl)) (hw _ (List.mem_of_getElem? (i := 1) rfl)) (hw _ (List.mem_of_getElem? (i := 2) rfl)) rfl (g := (mkF m 24 #[.val (.int ic), .val (.int i1), .val (.int i2), .val (.int ip), .val (.int ik), .val (.int co), .val (.ref b3), .unset, .unset, .unset, .unset, .unset, .unset, .unset, .unset, .unset] [])) rfl (hb hby at_24) (by decide) (by decide)
  obtain ⟨b27, g27⟩ : ∃ z, z = T18.heap.size := ⟨_, rfl⟩
  rw [← g27] at A27 D27 U27 st27
  have ne_b3_b27 : b3 ≠ b27 := Nat.ne_of_lt (Nat.lt_of_lt_of_le Eo18.lt (Nat.le_of_eq g27.symm))
  have ne_xa8_b27 : xa8 ≠ b27 := Nat.ne_of_lt (Nat.lt_of_lt_of_le f21.lt (Nat.le_of_eq g27.symm))
  have ne_xb8_b27 : xb8 ≠ b27 := Nat.ne_of_lt (Nat.lt_of_lt_of_le f24.lt (Nat.le_of_eq g27.symm))
  have g_b27 : n0 ≤ b27 := Nat.le_trans z25 (Nat.le_of_eq g27.symm)
  have sz_b27 : h0.size ≤ b27 := Nat.le_trans kp26.1 (Nat.le_of_eq g27.symm)
  have f28 := Eo18.ext E27
  have f29 := f21.ext E27
  have f30 := f22.ext E27
  have f31 := f23.ext E27
  have f32 := f24.ext E27
  have f33 := Fk18.ext E27
  have z34 := Nat.le_trans z25 E27.1
  have kp35 := kp26.ext E27
  have R36 := CHr.trans R19 (CHr.ext E27 R19.1)
  have hk37 := Nat.le_trans (Nat.le_refl _) E27.1
  have F_name_b27 : Fld Z h27 b27 "com/example/makespun/makespun/pool/Machine" "name" "Ljava/lang/String;" .null := D27 (Or.inr (hw _ (List.mem_of_getElem? (i := 84) rfl))) (ty := (.object "java/lang/String")) (by decide)
  have F_speed_b27 : Fld Z h27 b27 "com/example/makespun/makespun/pool/Machine" "speed" "D" (.double (0 : UInt64)) := D27 (Or.inr (hw _ (List.mem_of_getElem? (i := 86) rfl))) (ty := .double) (by decide)
  have F_cores_b27 : Fld Z h27 b27 "com/example/makespun/makespun/pool/Machine" "cores" "I" (.int (0 : Int32)) := D27 (Or.inr (hw _ (List.mem_of_getElem? (i := 88) rfl))) (ty := .int) (by decide)
  have F_pricePerHour_b27 : Fld Z h27 b27 "com/example/makespun/makespun/pool/Machine" "pricePerHour" "D" (.double (0 : UInt64)) := D27 (Or.inr (hw _ (List.mem_of_getElem? (i := 90) rfl))) (ty := .double) (by decide)
  have F_storageBytes_b27 : Fld Z h27 b27 "com/example/makespun/makespun/pool/Machine" "storageBytes" "J" (.long (0 : Int64)) := D27 (Or.inr (hw _ (List.mem_of_getElem? (i := 92) rfl))) (ty := .long) (by decide)
  obtain ⟨xa38, T38, h38, n38, xb38, kb38, X38, e38, E38, hS38, hk38, hZ38, hown38, Ex38, Fc38, Fv38, Vb38, la38, lb38, C38, li38, ne38, st38⟩ := ldcCH X27 hx hZ18 hown18 (hw _ (List.mem_of_getElem? (i := 3) rfl)) (own_sa hw) e27 hS18 hk37 hEL (List.mem_of_getElem? (i := 0) rfl) R36.1 (vs := [(.int (97 : Int32))]) (z := (1 : Int32)) (by decide) (by decide) rfl (g := (mkF m 28 #[.val (.int ic), .val (.int i1), .val (.int i2), .val (.int ip), .val (.int ik), .val (.int co), .val (.ref b3), .unset, .unset, .unset, .unset, .unset, .unset, .unset, .unset, .unset] [(.ref b27), (.ref b27)])) rfl (hb hby at_28) (n := 4) (by decide) (by decide) (by decide) (by decide)
  have f39 := f28.ext E38
  have f40 := f29.ext E38
  have f41 := f30.ext E38
  have f42 := f31.ext E38
  have f43 := f32.ext E38
  have f44 := f33.ext E38
  have f45 := A27.ext E38
  have f46 := F_name_b27.ext E38
  have f47 := F_speed_b27.ext E38
  have f48 := F_cores_b27.ext E38
  have f49 := F_pricePerHour_b27.ext E38
  have f50 := F_storageBytes_b27.ext E38
  have z51 := Nat.le_trans z34 E38.1
  have kp52 := kp35.ext E38
  have R53 := CHr.trans R36 C38
  have ne_b3_xa38 : b3 ≠ xa38 := (ne38 _ (Safe.exa (EL := own_EL) hZ38.alike f39 (by decide) (by decide))).1
  have ne_b3_xb38 : b3 ≠ xb38 := (ne38 _ (Safe.exa (EL := own_EL) hZ38.alike f39 (by decide) (by decide))).2
  have ne_b27_xa38 : b27 ≠ xa38 := (ne38 _ (Safe.exa (EL := own_EL) hZ38.alike f45 (by decide) (by decide))).1
  have ne_b27_xb38 : b27 ≠ xb38 := (ne38 _ (Safe.exa (EL := own_EL) hZ38.alike f45 (by decide) (by decide))).2
  obtain ⟨_, _, ⟨T54, L54, k54, n54⟩, -, X54, hT54, hG54, ⟨Lc54, hQ54, l54, y54, z54, C54⟩, st54⟩ := X38.specialBackS hx (y := (⟨"com/example/makespun/makespun/pool/Machine", "<init>", "(Ljava/lang/String;DIDJ)V"⟩ : MethodName)) rfl hown38 (mvT hZ38 (hw _ (List.mem_of_getElem? (i := 11) rfl))) (mvT hZ38 (hw _ (List.mem_of_getElem? (i := 12) rfl))) (mvT hZ38 (hw _ (List.mem_of_getElem? (i := 13) rfl))) (by decide) (backOfSH (W := 1) (rmM l Z a0 hw [] b27 xa38 co xb38 kb38 w ci cA clA h38 n0 z51 f45 f46 f47 f48 f49 f50 g_b27 ⟨Ex38, Fc38, Fv38, Vb38⟩ (J.keep kp52) hco) hZ38 (hw _ (List.mem_of_getElem? (i := 13) rfl)) (hw _ (List.mem_of_getElem? (i := 2) rfl)) (by decide) (by decide) hEL R53.1) (g := (mkF m 35 #[.val (.int ic), .val (.int i1), .val (.int i2), .val (.int ip), .val (.int ik), .val (.int co), .val (.ref b3), .unset, .unset, .unset, .unset, .unset, .unset, .unset, .unset, .unset] [(.long (0 : Int64)), (.double FP.dconst0), (.int co), (.double FP.dconst1), (.ref xa38), (.ref b27), (.ref b27)])) rfl (by rw [hml]; rfl) (Steps.refl _) (a := b27) (argsL := [(.ref xa38), (.double FP.dconst1), (.int co), (.double FP.dconst0), (.long (0 : Int64))]) (rest := [(.ref b27)]) (lenOf pd_11 rfl) rfl (by show 2 * 0 + _ ≤ _; exact Nat.le_of_eq rfl) (hb hby at_35) (fun _ _ => ⟨rfl, e38, (by decide : 10 + 4 ≤ _), (by decide : 78 + 52 ≤ _)⟩)
  dsimp only [Pt.U, Pt.locs, Pt.cells, Pt.slots] at X54 l54 y54 z54 st54 hQ54 hT54 hG54 C54
  subst l54 y54 z54
  have hS54 := foldS (T := T38) hS38 (by rw [e38]; exact hk38) hT54 hG54
  have hZ54 : Z.Warmed39 T54.vm := State.Warmed39.trans (t := s.setVm T38.vm) hZ38 hT54.1
  have hown54 : T54.vm.findClass "com/example/makespun/makespun/pool/SlotEqualsPinLaw" = some m.cls := by rw [hT54.1.alike.findClass]; exact hown38
  have X54r : Stand p l e _ (s.setVm T54.vm) m _ below meth c T54 _ _ _ := X54
  obtain ⟨rfl, N54q, K54, Eo54, Fk54⟩ := hQ54
  have N54 := Fr.app N18 N54q
  have R55 := CHr.trans R53 C54
  have f56 := f39.keep K54
  have f57 := f40.keep K54
  have f58 := f41.keep K54 (ninS ne_xa8_b27 nin0)
  have f59 := f42.keep K54 (ninS ne_xa8_b27 nin0)
  have f60 := f43.keep K54 (ninS ne_xb8_b27 nin0)
  have f61 := f44.keep K54 (ninS ne_b3_b27 nin0)
  have f62 := f45.keep K54
  have f63 := Ex38.keep K54
  have f64 := Fc38.keep K54 (ninS (Ne.symm ne_b27_xa38) nin0)
  have f65 := Fv38.keep K54 (ninS (Ne.symm ne_b27_xa38) nin0)
  have f66 := Vb38.keep K54 (ninS (Ne.symm ne_b27_xb38) nin0)
  have z67 := Nat.le_trans z51 K54.1
  have kp68 := Keep.trans kp52 K54 (allS (Or.inr sz_b27) all0)
  have k69 : ∀ tq, Steps p.tables e below (T54.setTop (mkF m 49 #[.val (.int ic), .val (.int i1), .val (.int i2), .val (.int ip), .val (.int ik), .val (.int co), .val (.ref b3), .val (.ref b27), .val (.int ((i1 &&& (2147483647 : Int32)) % co)), .unset, .unset, .unset, .unset, .unset, .unset, .unset] [])) tq → Steps p.tables e below (s₁.setTop (entryFrame m #[(.int ic), (.int i1), (.int i2), (.int ip), (.int ik)] maxLocals)) tq := by
    intro tq kt
    refine k2 tq ?_
    refine st3 _ ?_
    refine XS.dup X3.here hx rfl (hb hby at_11) rfl rfl ?_
    show Steps p.tables e below (T3.setTop (mkF m 12 #[.val (.int ic), .val (.int i1), .val (.int i2), .val (.int ip), .val (.int ik), .val (.int co), .unset, .unset, .unset, .unset, .unset, .unset, .unset, .unset, .unset, .unset] [(.ref b3), (.ref b3)])) _
    refine st8 _ ?_
    show Steps p.tables e below (T8.setTop (mkF m 14 #[.val (.int ic), .val (.int i1), .val (.int i2), .val (.int ip), .val (.int ik), .val (.int co), .unset, .unset, .unset, .unset, .unset, .unset, .unset, .unset, .unset, .unset] [(.ref xa8), (.ref b3), (.ref b3)])) _
    refine XS.dconst1 X8.here hx rfl (hb hby at_14) rfl ?_
    show Steps p.tables e below (T8.setTop (mkF m 15 #[.val (.int ic), .val (.int i1), .val (.int i2), .val (.int ip), .val (.int ik), .val (.int co), .unset, .unset, .unset, .unset, .unset, .unset, .unset, .unset, .unset, .unset] [(.double FP.dconst1), (.ref xa8), (.ref b3), (.ref b3)])) _
    refine XS.iload X8.here hx rfl (hb hby at_15) rfl ?_
    show Steps p.tables e below (T8.setTop (mkF m 17 #[.val (.int ic), .val (.int i1), .val (.int i2), .val (.int ip), .val (.int ik), .val (.int co), .unset, .unset, .unset, .unset, .unset, .unset, .unset, .unset, .unset, .unset] [(.int co), (.double FP.dconst1), (.ref xa8), (.ref b3), (.ref b3)])) _
    refine XS.dconst0 X8.here hx rfl (hb hby at_17) rfl ?_
    refine XS.lconst X8.here hx rfl (hb hby at_18) ?_
    show Steps p.tables e below (T8.setTop (mkF m 19 #[.val (.int ic), .val (.int i1), .val (.int i2), .val (.int ip), .val (.int ik), .val (.int co), .unset, .unset, .unset, .unset, .unset, .unset, .unset, .unset, .unset, .unset] [(.long (0 : Int64)), (.double FP.dconst0), (.int co), (.double FP.dconst1), (.ref xa8), (.ref b3), (.ref b3)])) _
    refine st18.trans ?_
    refine XS.astore X18r.here hx rfl (hb hby at_22) rfl rfl (l' := #[.val (.int ic), .val (.int i1), .val (.int i2), .val (.int ip), .val (.int ik), .val (.int co), .val (.ref b3), .unset, .unset, .unset, .unset, .unset, .unset, .unset, .unset, .unset]) rfl ?_
    refine st27 _ ?_
    show Steps p.tables e below (T27.setTop (mkF m 27 #[.val (.int ic), .val (.int i1), .val (.int i2), .val (.int ip), .val (.int ik), .val (.int co), .val (.ref b3), .unset, .unset, .unset, .unset, .unset, .unset, .unset, .unset, .unset] [(.ref b27)])) _
    refine XS.dup X27.here hx rfl (hb hby at_27) rfl rfl ?_
    show Steps p.tables e below (T27.setTop (mkF m 28 #[.val (.int ic), .val (.int i1), .val (.int i2), .val (.int ip), .val (.int ik), .val (.int co), .val (.ref b3), .unset, .unset, .unset, .unset, .unset, .unset, .unset, .unset, .unset] [(.ref b27), (.ref b27)])) _
    refine st38 _ ?_
    show Steps p.tables e below (T38.setTop (mkF m 30 #[.val (.int ic), .val (.int i1), .val (.int i2), .val (.int ip), .val (.int ik), .val (.int co), .val (.ref b3), .unset, .unset, .unset, .unset, .unset, .unset, .unset, .unset, .unset] [(.ref xa38), (.ref b27), (.ref b27)])) _
    refine XS.dconst1 X38.here hx rfl (hb hby at_30) rfl ?_
    refine XS.iload X38.here hx rfl (hb hby at_31) rfl ?_
    show Steps p.tables e below (T38.setTop (mkF m 33 #[.val (.int ic), .val (.int i1), .val (.int i2), .val (.int ip), .val (.int ik), .val (.int co), .val (.ref b3), .unset, .unset, .unset, .unset, .unset, .unset, .unset, .unset, .unset] [(.int co), (.double FP.dconst1), (.ref xa38), (.ref b27), (.ref b27)])) _
    refine XS.dconst0 X38.here hx rfl (hb hby at_33) rfl ?_
    refine XS.lconst X38.here hx rfl (hb hby at_34) ?_
    show Steps p.tables e below (T38.setTop (mkF m 35 #[.val (.int ic), .val (.int i1), .val (.int i2), .val (.int ip), .val (.int ik), .val (.int co), .val (.ref b3), .unset, .unset, .unset, .unset, .unset, .unset, .unset, .unset, .unset] [(.long (0 : Int64)), (.double FP.dconst0), (.int co), (.double FP.dconst1), (.ref xa38), (.ref b27), (.ref b27)])) _
    refine st54.trans ?_
    show Steps p.tables e below (T54.setTop (mkF m 38 #[.val (.int ic), .val (.int i1), .val (.int i2), .val (.int ip), .val (.int ik), .val (.int co), .val (.ref b3), .unset, .unset, .unset, .unset, .unset, .unset, .unset, .unset, .unset] [(.ref b27)])) _
    refine XS.astore X54r.here hx rfl (hb hby at_38) rfl rfl (l' := #[.val (.int ic), .val (.int i1), .val (.int i2), .val (.int ip), .val (.int ik), .val (.int co), .val (.ref b3), .val (.ref b27), .unset, .unset, .unset, .unset, .unset, .unset, .unset, .unset]) rfl ?_
    refine XS.iloadN X54r.here hx rfl (hb hby at_40) rfl ?_
    show Steps p.tables e below (T54.setTop (mkF m 41 #[.val (.int ic), .val (.int i1), .val (.int i2), .val (.int ip), .val (.int ik), .val (.int co), .val (.ref b3), .val (.ref b27), .unset, .unset, .unset, .unset, .unset, .unset, .unset, .unset] [(.int i1)])) _
    refine X54r.ldcInt hx hown54 (mvT hZ54 (hw _ (List.mem_of_getElem? (i := 93) rfl))) (g := (mkF m 41 #[.val (.int ic), .val (.int i1), .val (.int i2), .val (.int ip), .val (.int ik), .val (.int co), .val (.ref b3), .val (.ref b27), .unset, .unset, .unset, .unset, .unset, .unset, .unset, .unset] [(.int i1)])) rfl (hb hby at_41) _ ?_
    refine XS.iand X54r.here hx rfl (hb hby at_43) rfl ?_
    refine XS.iload X54r.here hx rfl (hb hby at_44) rfl ?_
    show Steps p.tables e below (T54.setTop (mkF m 46 #[.val (.int ic), .val (.int i1), .val (.int i2), .val (.int ip), .val (.int ik), .val (.int co), .val (.ref b3), .val (.ref b27), .unset, .unset, .unset, .unset, .unset, .unset, .unset, .unset] [(.int co), (.int (i1 &&& (2147483647 : Int32)))])) _
    refine iremM X54r hx rfl (hb hby at_46) rfl hc0 ?_
    refine XS.istore X54r.here hx rfl (hb hby at_47) rfl (l' := #[.val (.int ic), .val (.int i1), .val (.int i2), .val (.int ip), .val (.int ik), .val (.int co), .val (.ref b3), .val (.ref b27), .val (.int ((i1 &&& (2147483647 : Int32)) % co)), .unset, .unset, .unset, .unset, .unset, .unset, .unset]) rfl ?_
    exact kt
  obtain ⟨na, hna⟩ : ∃ z : Int32, z = ((i1 &&& (2147483647 : Int32)) % co) := ⟨_, rfl⟩
  have k70 : ∀ tq, Steps p.tables e below (T54.setTop (mkF m 49 #[.val (.int ic), .val (.int i1), .val (.int i2), .val (.int ip), .val (.int ik), .val (.int co), .val (.ref b3), .val (.ref b27), .val (.int na), .unset, .unset, .unset, .unset, .unset, .unset, .unset] [])) tq → Steps p.tables e below (s₁.setTop (entryFrame m #[(.int ic), (.int i1), (.int i2), (.int ip), (.int ik)] maxLocals)) tq := by
    intro tq kt
    subst hna
    exact k69 tq kt
  obtain ⟨na0, na1, na9⟩ := own_rem i1 hco hco9
  rw [← hna] at na0 na1 na9
  have k71 : ∀ tq, Steps p.tables e below (T54.setTop (mkF m 58 #[.val (.int ic), .val (.int i1), .val (.int i2), .val (.int ip), .val (.int ik), .val (.int co), .val (.ref b3), .val (.ref b27), .val (.int na), .val (.int ((i2 &&& (2147483647 : Int32)) % co)), .unset, .unset, .unset, .unset, .unset, .unset] [])) tq → Steps p.tables e below (s₁.setTop (entryFrame m #[(.int ic), (.int i1), (.int i2), (.int ip), (.int ik)] maxLocals)) tq := by
    intro tq kt
    refine k70 tq ?_
    refine XS.iloadN X54r.here hx rfl (hb hby at_49) rfl ?_
    show Steps p.tables e below (T54.setTop (mkF m 50 #[.val (.int ic), .val (.int i1), .val (.int i2), .val (.int ip), .val (.int ik), .val (.int co), .val (.ref b3), .val (.ref b27), .val (.int na), .unset, .unset, .unset, .unset, .unset, .unset, .unset] [(.int i2)])) _
    refine X54r.ldcInt hx hown54 (mvT hZ54 (hw _ (List.mem_of_getElem? (i := 93) rfl))) (g := (mkF m 50 #[.val (.int ic), .val (.int i1), .val (.int i2), .val (.int ip), .val (.int ik), .val (.int co), .val (.ref b3), .val (.ref b27), .val (.int na), .unset, .unset, .unset, .unset, .unset, .unset, .unset] [(.int i2)])) rfl (hb hby at_50) _ ?_
    refine XS.iand X54r.here hx rfl (hb hby at_52) rfl ?_
    show Steps p.tables e below (T54.setTop (mkF m 53 #[.val (.int ic), .val (.int i1), .val (.int i2), .val (.int ip), .val (.int ik), .val (.int co), .val (.ref b3), .val (.ref b27), .val (.int na), .unset, .unset, .unset, .unset, .unset, .unset, .unset] [(.int (i2 &&& (2147483647 : Int32)))])) _
    refine XS.iload X54r.here hx rfl (hb hby at_53) rfl ?_
    show Steps p.tables e below (T54.setTop (mkF m 55 #[.val (.int ic), .val (.int i1), .val (.int i2), .val (.int ip), .val (.int ik), .val (.int co), .val (.ref b3), .val (.ref b27), .val (.int na), .unset, .unset, .unset, .unset, .unset, .unset, .unset] [(.int co), (.int (i2 &&& (2147483647 : Int32)))])) _
    refine iremM X54r hx rfl (hb hby at_55) rfl hc0 ?_
    refine XS.istore X54r.here hx rfl (hb hby at_56) rfl (l' := #[.val (.int ic), .val (.int i1), .val (.int i2), .val (.int ip), .val (.int ik), .val (.int co), .val (.ref b3), .val (.ref b27), .val (.int na), .val (.int ((i2 &&& (2147483647 : Int32)) % co)), .unset, .unset, .unset, .unset, .unset, .unset]) rfl ?_
    exact kt
  obtain ⟨nb, hnb⟩ : ∃ z : Int32, z = ((i2 &&& (2147483647 : Int32)) % co) := ⟨_, rfl⟩
  have k72 : ∀ tq, Steps p.tables e below (T54.setTop (mkF m 58 #[.val (.int ic), .val (.int i1), .val (.int i2), .val (.int ip), .val (.int ik), .val (.int co), .val (.ref b3), .val (.ref b27), .val (.int na), .val (.int nb), .unset, .unset, .unset, .unset, .unset, .unset] [])) tq → Steps p.tables e below (s₁.setTop (entryFrame m #[(.int ic), (.int i1), (.int i2), (.int ip), (.int ik)] maxLocals)) tq := by
    intro tq kt
    subst hnb
    exact k71 tq kt
  obtain ⟨nb0, nb1, nb9⟩ := own_rem i2 hco hco9
  rw [← hnb] at nb0 nb1 nb9
  obtain ⟨T73, h73, X73, e73, E73, A73, D73, U73, st73⟩ := newO X54r hx hZ54 hown54 (hw _ (List.mem_of_getElem? (i := 94) rfl)) (hw _ (List.mem_of_getElem? (i := 95) rfl)) (hw _ (List.mem_of_getElem? (i := 96) rfl)) rfl (g := (mkF m 85 #[.val (.int ic), .val (.int i1), .val (.int i2), .val (.int ip), .val (.int ik), .val (.int co), .val (.ref b3), .val (.ref b27), .val (.int na), .val (.int nb), .val (.int (1 : Int32)), .val (.ref b27), .unset, .unset, .unset, .unset] [])) rfl (hb hby at_85) (by decide) (by decide)
  obtain ⟨b73, g73⟩ : ∃ z, z = T54.heap.size := ⟨_, rfl⟩
  rw [← g73] at A73 D73 U73 st73
  have ne_b3_b73 : b3 ≠ b73 := Nat.ne_of_lt (Nat.lt_of_lt_of_le f56.lt (Nat.le_of_eq g73.symm))
  have ne_xa8_b73 : xa8 ≠ b73 := Nat.ne_of_lt (Nat.lt_of_lt_of_le f57.lt (Nat.le_of_eq g73.symm))
  have ne_xb8_b73 : xb8 ≠ b73 := Nat.ne_of_lt (Nat.lt_of_lt_of_le f60.lt (Nat.le_of_eq g73.symm))
  have ne_b27_b73 : b27 ≠ b73 := Nat.ne_of_lt (Nat.lt_of_lt_of_le Eo54.lt (Nat.le_of_eq g73.symm))
  have ne_xa38_b73 : xa38 ≠ b73 := Nat.ne_of_lt (Nat.lt_of_lt_of_le f63.lt (Nat.le_of_eq g73.symm))
  have ne_xb38_b73 : xb38 ≠ b73 := Nat.ne_of_lt (Nat.lt_of_lt_of_le f66.lt (Nat.le_of_eq g73.symm))
  have g_b73 : n0 ≤ b73 := Nat.le_trans z67 (Nat.le_of_eq g73.symm)
  have sz_b73 : h0.size ≤ b73 := Nat.le_trans kp68.1 (Nat.le_of_eq g73.symm)
  have f74 := f56.ext E73
  have f75 := f57.ext E73
  have f76 := f58.ext E73
  have f77 := f59.ext E73
  have f78 := f60.ext E73
  have f79 := f61.ext E73
  have f80 := Eo54.ext E73
  have f81 := f63.ext E73
  have f82 := f64.ext E73
  have f83 := f65.ext E73
  have f84 := f66.ext E73
  have f85 := Fk54.ext E73
  have z86 := Nat.le_trans z67 E73.1
  have kp87 := kp68.ext E73
  have R88 := CHr.trans R55 (CHr.ext E73 R55.1)
  have hk89 := Nat.le_trans (Nat.le_refl _) E73.1
  have F_machine_b73 : Fld Z h73 b73 "com/example/makespun/makespun/pool/Slot" "machine" "Lcom/example/makespun/makespun/pool/Machine;" .null := D73 (Or.inr (hw _ (List.mem_of_getElem? (i := 109) rfl))) (ty := (.object "com/example/makespun/makespun/pool/Machine")) (by decide)
  have F_number_b73 : Fld Z h73 b73 "com/example/makespun/makespun/pool/Slot" "number" "I" (.int (0 : Int32)) := D73 (Or.inr (hw _ (List.mem_of_getElem? (i := 111) rfl))) (ty := .int) (by decide)
  obtain ⟨_, _, ⟨T90, L90, k90, n90⟩, -, X90, hT90, hG90, ⟨Lc90, hQ90, l90, y90, z90, C90⟩, st90⟩ := X73.specialBackS hx (y := (⟨"com/example/makespun/makespun/pool/Slot", "<init>", "(Lcom/example/makespun/makespun/pool/Machine;I)V"⟩ : MethodName)) rfl hown54 (mvT hZ54 (hw _ (List.mem_of_getElem? (i := 97) rfl))) (mvT hZ54 (hw _ (List.mem_of_getElem? (i := 98) rfl))) (mvT hZ54 (hw _ (List.mem_of_getElem? (i := 99) rfl))) (by decide) (backOfSH (W := 1) (rmSl l Z a0 hw [] b73 b3 na co h73 n0 z86 A73 F_machine_b73 F_number_b73 g_b73 f74 f79 na0 na1) hZ54 (hw _ (List.mem_of_getElem? (i := 99) rfl)) (hw _ (List.mem_of_getElem? (i := 96) rfl)) (by decide) (by decide) hEL R88.1) (g := (mkF m 93 #[.val (.int ic), .val (.int i1), .val (.int i2), .val (.int ip), .val (.int ik), .val (.int co), .val (.ref b3), .val (.ref b27), .val (.int na), .val (.int nb), .val (.int (1 : Int32)), .val (.ref b27), .unset, .unset, .unset, .unset] [(.int na), (.ref b3), (.ref b73), (.ref b73)])) rfl (by rw [hml]; rfl) (Steps.refl _) (a := b73) (argsL := [(.ref b3), (.int na)]) (rest := [(.ref b73)]) (lenOf pd_12 rfl) rfl (by show 2 * 0 + _ ≤ _; exact Nat.le_of_eq rfl) (hb hby at_93) (fun _ _ => ⟨rfl, e73, (by decide : 15 + 2 ≤ _), (by decide : 132 + 32 ≤ _)⟩)
  dsimp only [Pt.U, Pt.locs, Pt.cells, Pt.slots] at X90 l90 y90 z90 st90 hQ90 hT90 hG90 C90
  subst l90 y90 z90
  have hS90 := foldS (T := T73) hS54 (by rw [e73]; exact hk89) hT90 hG90
  have hZ90 : Z.Warmed39 T90.vm := State.Warmed39.trans (t := s.setVm T54.vm) hZ54 hT90.1
  have hown90 : T90.vm.findClass "com/example/makespun/makespun/pool/SlotEqualsPinLaw" = some m.cls := by rw [hT90.1.alike.findClass]; exact hown54
  have X90r : Stand p l e _ (s.setVm T90.vm) m _ below meth c T90 _ _ _ := X90
  obtain ⟨rfl, N90q, K90, Eo90, Fm90, Fn90⟩ := hQ90
  have N90 := Fr.app N54 N90q
  have R91 := CHr.trans R88 C90
  have f92 := f74.keep K90
  have f93 := f75.keep K90
  have f94 := f76.keep K90 (ninS ne_xa8_b73 nin0)
  have f95 := f77.keep K90 (ninS ne_xa8_b73 nin0)
  have f96 := f78.keep K90 (ninS ne_xb8_b73 nin0)
  have f97 := f79.keep K90 (ninS ne_b3_b73 nin0)
  have f98 := f80.keep K90
  have f99 := f81.keep K90
  have f100 := f82.keep K90 (ninS ne_xa38_b73 nin0)
  have f101 := f83.keep K90 (ninS ne_xa38_b73 nin0)
  have f102 := f84.keep K90 (ninS ne_xb38_b73 nin0)
  have f103 := f85.keep K90 (ninS ne_b27_b73 nin0)
  have f104 := A73.keep K90
  have z105 := Nat.le_trans z86 K90.1
  have kp106 := Keep.trans kp87 K90 (allS (Or.inr sz_b73) all0)
  obtain ⟨T107, h107, X107, e107, E107, A107, D107, U107, st107⟩ := newO X90r hx hZ90 hown90 (hw _ (List.mem_of_getElem? (i := 94) rfl)) (hw _ (List.mem_of_getElem? (i := 95) rfl)) (hw _ (List.mem_of_getElem? (i := 96) rfl)) rfl (g := (mkF m 98 #[.val (.int ic), .val (.int i1), .val (.int i2), .val (.int ip), .val (.int ik), .val (.int co), .val (.ref b3), .val (.ref b27), .val (.int na), .val (.int nb), .val (.int (1 : Int32)), .val (.ref b27), .val (.ref b73), .unset, .unset, .unset] [])) rfl (hb hby at_98) (by decide) (by decide)
  obtain ⟨b107, g107⟩ : ∃ z, z = T90.heap.size := ⟨_, rfl⟩
  rw [← g107] at A107 D107 U107 st107
  have ne_b3_b107 : b3 ≠ b107 := Nat.ne_of_lt (Nat.lt_of_lt_of_le f92.lt (Nat.le_of_eq g107.symm))
  have ne_xa8_b107 : xa8 ≠ b107 := Nat.ne_of_lt (Nat.lt_of_lt_of_le f93.lt (Nat.le_of_eq g107.symm))
  have ne_xb8_b107 : xb8 ≠ b107 := Nat.ne_of_lt (Nat.lt_of_lt_of_le f96.lt (Nat.le_of_eq g107.symm))
  have ne_b27_b107 : b27 ≠ b107 := Nat.ne_of_lt (Nat.lt_of_lt_of_le f98.lt (Nat.le_of_eq g107.symm))
  have ne_xa38_b107 : xa38 ≠ b107 := Nat.ne_of_lt (Nat.lt_of_lt_of_le f99.lt (Nat.le_of_eq g107.symm))
  have ne_xb38_b107 : xb38 ≠ b107 := Nat.ne_of_lt (Nat.lt_of_lt_of_le f102.lt (Nat.le_of_eq g107.symm))
  have ne_b73_b107 : b73 ≠ b107 := Nat.ne_of_lt (Nat.lt_of_lt_of_le Eo90.lt (Nat.le_of_eq g107.symm))
  have g_b107 : n0 ≤ b107 := Nat.le_trans z105 (Nat.le_of_eq g107.symm)
  have sz_b107 : h0.size ≤ b107 := Nat.le_trans kp106.1 (Nat.le_of_eq g107.symm)
  have f108 := f92.ext E107
  have f109 := f93.ext E107
  have f110 := f94.ext E107
  have f111 := f95.ext E107
  have f112 := f96.ext E107
  have f113 := f97.ext E107
  have f114 := f98.ext E107
  have f115 := f99.ext E107
  have f116 := f100.ext E107
  have f117 := f101.ext E107
  have f118 := f102.ext E107
  have f119 := f103.ext E107
  have f120 := Eo90.ext E107
  have f121 := Fm90.ext E107
  have f122 := Fn90.ext E107
  have z123 := Nat.le_trans z105 E107.1
  have kp124 := kp106.ext E107
  have R125 := CHr.trans R91 (CHr.ext E107 R91.1)
  have hk126 := Nat.le_trans (Nat.le_refl _) E107.1
  have F_machine_b107 : Fld Z h107 b107 "com/example/makespun/makespun/pool/Slot" "machine" "Lcom/example/makespun/makespun/pool/Machine;" .null := D107 (Or.inr (hw _ (List.mem_of_getElem? (i := 109) rfl))) (ty := (.object "com/example/makespun/makespun/pool/Machine")) (by decide)
  have F_number_b107 : Fld Z h107 b107 "com/example/makespun/makespun/pool/Slot" "number" "I" (.int (0 : Int32)) := D107 (Or.inr (hw _ (List.mem_of_getElem? (i := 111) rfl))) (ty := .int) (by decide)
  obtain ⟨_, _, ⟨T127, L127, k127, n127⟩, -, X127, hT127, hG127, ⟨Lc127, hQ127, l127, y127, z127, C127⟩, st127⟩ := X107.specialBackS hx (y := (⟨"com/example/makespun/makespun/pool/Slot", "<init>", "(Lcom/example/makespun/makespun/pool/Machine;I)V"⟩ : MethodName)) rfl hown90 (mvT hZ90 (hw _ (List.mem_of_getElem? (i := 97) rfl))) (mvT hZ90 (hw _ (List.mem_of_getElem? (i := 98) rfl))) (mvT hZ90 (hw _ (List.mem_of_getElem? (i := 99) rfl))) (by decide) (backOfSH (W := 1) (rmSl l Z a0 hw [] b107 b27 nb co h107 n0 z123 A107 F_machine_b107 F_number_b107 g_b107 f114 f119 nb0 nb1) hZ90 (hw _ (List.mem_of_getElem? (i := 99) rfl)) (hw _ (List.mem_of_getElem? (i := 96) rfl)) (by decide) (by decide) hEL R125.1) (g := (mkF m 106 #[.val (.int ic), .val (.int i1), .val (.int i2), .val (.int ip), .val (.int ik), .val (.int co), .val (.ref b3), .val (.ref b27), .val (.int na), .val (.int nb), .val (.int (1 : Int32)), .val (.ref b27), .val (.ref b73), .unset, .unset, .unset] [(.int nb), (.ref b27), (.ref b107), (.ref b107)])) rfl (by rw [hml]; rfl) (Steps.refl _) (a := b107) (argsL := [(.ref b27), (.int nb)]) (rest := [(.ref b107)]) (lenOf pd_12 rfl) rfl (by show 2 * 0 + _ ≤ _; exact Nat.le_of_eq rfl) (hb hby at_106) (fun _ _ => ⟨rfl, e107, (by decide : 18 + 2 ≤ _), (by decide : 166 + 32 ≤ _)⟩)
  dsimp only [Pt.U, Pt.locs, Pt.cells, Pt.slots] at X127 l127 y127 z127 st127 hQ127 hT127 hG127 C127
  subst l127 y127 z127
  have hS127 := foldS (T := T107) hS90 (by rw [e107]; exact hk126) hT127 hG127
  have hZ127 : Z.Warmed39 T127.vm := State.Warmed39.trans (t := s.setVm T90.vm) hZ90 hT127.1
  have hown127 : T127.vm.findClass "com/example/makespun/makespun/pool/SlotEqualsPinLaw" = some m.cls := by rw [hT127.1.alike.findClass]; exact hown90
  have X127r : Stand p l e _ (s.setVm T127.vm) m _ below meth c T127 _ _ _ := X127
  obtain ⟨rfl, N127q, K127, Eo127, Fm127, Fn127⟩ := hQ127
  have N127 := Fr.app N90 N127q
  have R128 := CHr.trans R125 C127
  have f129 := f108.keep K127
  have f130 := f109.keep K127
  have f131 := f110.keep K127 (ninS ne_xa8_b107 nin0)
  have f132 := f111.keep K127 (ninS ne_xa8_b107 nin0)
  have f133 := f112.keep K127 (ninS ne_xb8_b107 nin0)
  have f134 := f113.keep K127 (ninS ne_b3_b107 nin0)
  have f135 := f114.keep K127
  have f136 := f115.keep K127
  have f137 := f116.keep K127 (ninS ne_xa38_b107 nin0)
  have f138 := f117.keep K127 (ninS ne_xa38_b107 nin0)
  have f139 := f118.keep K127 (ninS ne_xb38_b107 nin0)
  have f140 := f119.keep K127 (ninS ne_b27_b107 nin0)
  have f141 := f120.keep K127
  have f142 := f121.keep K127 (ninS ne_b73_b107 nin0)
  have f143 := f122.keep K127 (ninS ne_b73_b107 nin0)
  have f144 := A107.keep K127
  have z145 := Nat.le_trans z123 K127.1
  have kp146 := Keep.trans kp124 K127 (allS (Or.inr sz_b107) all0)
  have k147 : ∀ tq, Steps p.tables e below (T127.setTop (mkF m 120 #[.val (.int ic), .val (.int i1), .val (.int i2), .val (.int ip), .val (.int ik), .val (.int co), .val (.ref b3), .val (.ref b27), .val (.int na), .val (.int nb), .val (.int (1 : Int32)), .val (.ref b27), .val (.ref b73), .val (.ref b107), .val (.int ((ik &&& (2147483647 : Int32)) % (5 : Int32))), .unset] [])) tq → Steps p.tables e below (s₁.setTop (entryFrame m #[(.int ic), (.int i1), (.int i2), (.int ip), (.int ik)] maxLocals)) tq := by
    intro tq kt
    refine k72 tq ?_
    refine XS.iloadN X54r.here hx rfl (hb hby at_58) rfl ?_
    refine XS.iconst X54r.here hx rfl (hb hby at_59) ?_
    show Steps p.tables e below (T54.setTop (mkF m 60 #[.val (.int ic), .val (.int i1), .val (.int i2), .val (.int ip), .val (.int ik), .val (.int co), .val (.ref b3), .val (.ref b27), .val (.int na), .val (.int nb), .unset, .unset, .unset, .unset, .unset, .unset] [(.int (1 : Int32)), (.int ip)])) _
    refine XS.iand X54r.here hx rfl (hb hby at_60) rfl ?_
    show Steps p.tables e below (T54.setTop (mkF m 61 #[.val (.int ic), .val (.int i1), .val (.int i2), .val (.int ip), .val (.int ik), .val (.int co), .val (.ref b3), .val (.ref b27), .val (.int na), .val (.int nb), .unset, .unset, .unset, .unset, .unset, .unset] [(.int (ip &&& (1 : Int32)))])) _
    refine XS.ifNo X54r.here hx rfl (hb hby at_61) rfl ((if0 _ _).trans (feq hot).1) ?_
    refine XS.iconst X54r.here hx rfl (hb hby at_64) ?_
    refine XS.goto X54r.here hx rfl (pc0 := 65) (pc' := 69) rfl (hb hby at_65) (by decide) (by decide) ?_
    refine XS.istore X54r.here hx rfl (hb hby at_69) rfl (l' := #[.val (.int ic), .val (.int i1), .val (.int i2), .val (.int ip), .val (.int ik), .val (.int co), .val (.ref b3), .val (.ref b27), .val (.int na), .val (.int nb), .val (.int (1 : Int32)), .unset, .unset, .unset, .unset, .unset]) rfl ?_
    refine XS.iload X54r.here hx rfl (hb hby at_71) rfl ?_
    show Steps p.tables e below (T54.setTop (mkF m 73 #[.val (.int ic), .val (.int i1), .val (.int i2), .val (.int ip), .val (.int ik), .val (.int co), .val (.ref b3), .val (.ref b27), .val (.int na), .val (.int nb), .val (.int (1 : Int32)), .unset, .unset, .unset, .unset, .unset] [(.int (1 : Int32))])) _
    refine XS.ifNo X54r.here hx rfl (hb hby at_73) rfl ((if0 _ _).trans (feq (by decide : ¬ ((1 : Int32) = (0 : Int32)))).1) ?_
    show Steps p.tables e below (T54.setTop (mkF m 76 #[.val (.int ic), .val (.int i1), .val (.int i2), .val (.int ip), .val (.int ik), .val (.int co), .val (.ref b3), .val (.ref b27), .val (.int na), .val (.int nb), .val (.int (1 : Int32)), .unset, .unset, .unset, .unset, .unset] [])) _
    refine XS.aload X54r.here hx rfl (hb hby at_76) rfl rfl ?_
    refine XS.goto X54r.here hx rfl (pc0 := 78) (pc' := 83) rfl (hb hby at_78) (by decide) (by decide) ?_
    refine XS.astore X54r.here hx rfl (hb hby at_83) rfl rfl (l' := #[.val (.int ic), .val (.int i1), .val (.int i2), .val (.int ip), .val (.int ik), .val (.int co), .val (.ref b3), .val (.ref b27), .val (.int na), .val (.int nb), .val (.int (1 : Int32)), .val (.ref b27), .unset, .unset, .unset, .unset]) rfl ?_
    refine st73 _ ?_
    refine XS.dup X73.here hx rfl (hb hby at_88) rfl rfl ?_
    show Steps p.tables e below (T73.setTop (mkF m 89 #[.val (.int ic), .val (.int i1), .val (.int i2), .val (.int ip), .val (.int ik), .val (.int co), .val (.ref b3), .val (.ref b27), .val (.int na), .val (.int nb), .val (.int (1 : Int32)), .val (.ref b27), .unset, .unset, .unset, .unset] [(.ref b73), (.ref b73)])) _
    refine XS.aload X73.here hx rfl (hb hby at_89) rfl rfl ?_
    refine XS.iload X73.here hx rfl (hb hby at_91) rfl ?_
    show Steps p.tables e below (T73.setTop (mkF m 93 #[.val (.int ic), .val (.int i1), .val (.int i2), .val (.int ip), .val (.int ik), .val (.int co), .val (.ref b3), .val (.ref b27), .val (.int na), .val (.int nb), .val (.int (1 : Int32)), .val (.ref b27), .unset, .unset, .unset, .unset] [(.int na), (.ref b3), (.ref b73), (.ref b73)])) _
    refine st90.trans ?_
    refine XS.astore X90r.here hx rfl (hb hby at_96) rfl rfl (l' := #[.val (.int ic), .val (.int i1), .val (.int i2), .val (.int ip), .val (.int ik), .val (.int co), .val (.ref b3), .val (.ref b27), .val (.int na), .val (.int nb), .val (.int (1 : Int32)), .val (.ref b27), .val (.ref b73), .unset, .unset, .unset]) rfl ?_
    refine st107 _ ?_
    refine XS.dup X107.here hx rfl (hb hby at_101) rfl rfl ?_
    show Steps p.tables e below (T107.setTop (mkF m 102 #[.val (.int ic), .val (.int i1), .val (.int i2), .val (.int ip), .val (.int ik), .val (.int co), .val (.ref b3), .val (.ref b27), .val (.int na), .val (.int nb), .val (.int (1 : Int32)), .val (.ref b27), .val (.ref b73), .unset, .unset, .unset] [(.ref b107), (.ref b107)])) _
    refine XS.aload X107.here hx rfl (hb hby at_102) rfl rfl ?_
    refine XS.iload X107.here hx rfl (hb hby at_104) rfl ?_
    show Steps p.tables e below (T107.setTop (mkF m 106 #[.val (.int ic), .val (.int i1), .val (.int i2), .val (.int ip), .val (.int ik), .val (.int co), .val (.ref b3), .val (.ref b27), .val (.int na), .val (.int nb), .val (.int (1 : Int32)), .val (.ref b27), .val (.ref b73), .unset, .unset, .unset] [(.int nb), (.ref b27), (.ref b107), (.ref b107)])) _
    refine st127.trans ?_
    refine XS.astore X127r.here hx rfl (hb hby at_109) rfl rfl (l' := #[.val (.int ic), .val (.int i1), .val (.int i2), .val (.int ip), .val (.int ik), .val (.int co), .val (.ref b3), .val (.ref b27), .val (.int na), .val (.int nb), .val (.int (1 : Int32)), .val (.ref b27), .val (.ref b73), .val (.ref b107), .unset, .unset]) rfl ?_
    refine XS.iload X127r.here hx rfl (hb hby at_111) rfl ?_
    show Steps p.tables e below (T127.setTop (mkF m 113 #[.val (.int ic), .val (.int i1), .val (.int i2), .val (.int ip), .val (.int ik), .val (.int co), .val (.ref b3), .val (.ref b27), .val (.int na), .val (.int nb), .val (.int (1 : Int32)), .val (.ref b27), .val (.ref b73), .val (.ref b107), .unset, .unset] [(.int ik)])) _
    refine X127r.ldcInt hx hown127 (mvT hZ127 (hw _ (List.mem_of_getElem? (i := 93) rfl))) (g := (mkF m 113 #[.val (.int ic), .val (.int i1), .val (.int i2), .val (.int ip), .val (.int ik), .val (.int co), .val (.ref b3), .val (.ref b27), .val (.int na), .val (.int nb), .val (.int (1 : Int32)), .val (.ref b27), .val (.ref b73), .val (.ref b107), .unset, .unset] [(.int ik)])) rfl (hb hby at_113) _ ?_
    show Steps p.tables e below (T127.setTop (mkF m 115 #[.val (.int ic), .val (.int i1), .val (.int i2), .val (.int ip), .val (.int ik), .val (.int co), .val (.ref b3), .val (.ref b27), .val (.int na), .val (.int nb), .val (.int (1 : Int32)), .val (.ref b27), .val (.ref b73), .val (.ref b107), .unset, .unset] [(.int (2147483647 : Int32)), (.int ik)])) _
    refine XS.iand X127r.here hx rfl (hb hby at_115) rfl ?_
    refine XS.iconst X127r.here hx rfl (hb hby at_116) ?_
    show Steps p.tables e below (T127.setTop (mkF m 117 #[.val (.int ic), .val (.int i1), .val (.int i2), .val (.int ip), .val (.int ik), .val (.int co), .val (.ref b3), .val (.ref b27), .val (.int na), .val (.int nb), .val (.int (1 : Int32)), .val (.ref b27), .val (.ref b73), .val (.ref b107), .unset, .unset] [(.int (5 : Int32)), (.int (ik &&& (2147483647 : Int32)))])) _
    refine iremM X127r hx rfl (hb hby at_117) rfl (by decide) ?_
    refine XS.istore X127r.here hx rfl (hb hby at_118) rfl (l' := #[.val (.int ic), .val (.int i1), .val (.int i2), .val (.int ip), .val (.int ik), .val (.int co), .val (.ref b3), .val (.ref b27), .val (.int na), .val (.int nb), .val (.int (1 : Int32)), .val (.ref b27), .val (.ref b73), .val (.ref b107), .val (.int ((ik &&& (2147483647 : Int32)) % (5 : Int32))), .unset]) rfl ?_
    exact kt
  obtain ⟨kk, hkk⟩ : ∃ z : Int32, z = ((ik &&& (2147483647 : Int32)) % (5 : Int32)) := ⟨_, rfl⟩
  have k148 : ∀ tq, Steps p.tables e below (T127.setTop (mkF m 120 #[.val (.int ic), .val (.int i1), .val (.int i2), .val (.int ip), .val (.int ik), .val (.int co), .val (.ref b3), .val (.ref b27), .val (.int na), .val (.int nb), .val (.int (1 : Int32)), .val (.ref b27), .val (.ref b73), .val (.ref b107), .val (.int kk), .unset] [])) tq → Steps p.tables e below (s₁.setTop (entryFrame m #[(.int ic), (.int i1), (.int i2), (.int ip), (.int ik)] maxLocals)) tq := by
    intro tq kt
    subst hkk
    exact k147 tq kt
  have hab : own_se b3 b27 na nb = (0 : Int32) := if_neg ne_b3_b27
  have hba : own_se b27 b3 nb na = (0 : Int32) := if_neg (Ne.symm ne_b3_b27)
  have haa : own_se b3 b3 na na = (1 : Int32) := by unfold own_se; rw [if_pos rfl, if_pos rfl]
  have k149 : ∀ tq, Steps p.tables e below (T127.setTop (mkF m 122 #[.val (.int ic), .val (.int i1), .val (.int i2), .val (.int ip), .val (.int ik), .val (.int co), .val (.ref b3), .val (.ref b27), .val (.int na), .val (.int nb), .val (.int (1 : Int32)), .val (.ref b27), .val (.ref b73), .val (.ref b107), .val (.int kk), .unset] [(.int kk)])) tq → Steps p.tables e below (s₁.setTop (entryFrame m #[(.int ic), (.int i1), (.int i2), (.int ip), (.int ik)] maxLocals)) tq := by
    intro tq kt
    refine k148 tq ?_
    refine XS.iload X127r.here hx rfl (hb hby at_120) rfl ?_
    exact kt
  by_cases hc150 : kk = (0 : Int32)
  · obtain ⟨cq151, kq151, q151a, q151b, q151c⟩ := isOf hZ127 rfl f141
    obtain ⟨_, _, ⟨T151, L151, k151, n151⟩, -, X151, ⟨Lc151, hQ151, l151, y151, z151⟩, st151⟩ := X127r.virtualBack hx (y := (⟨"com/example/makespun/makespun/pool/Slot", "equals", "(Ljava/lang/Object;)Z"⟩ : MethodName)) (z := (⟨"com/example/makespun/makespun/pool/Slot", "equals", "(Ljava/lang/Object;)Z"⟩ : MethodName)) hown127 (mvT hZ127 (hw _ (List.mem_of_getElem? (i := 112) rfl))) (mvT hZ127 (hw _ (List.mem_of_getElem? (i := 113) rfl))) (notFace_of_selects (args := #[]) (mvT hZ127 (hw _ (List.mem_of_getElem? (i := 115) rfl)))) (mvT hZ127 (hw _ (List.mem_of_getElem? (i := 115) rfl))) (mvT hZ127 (hw _ (List.mem_of_getElem? (i := 114) rfl))) (by decide) (backOf (W := 0) (rmE l Z a0 hw [] b73 b107 b3 b27 na nb T127.heap n0 z145 Eo127 f142 f143 Fm127 Fn127) hZ127 (hw _ (List.mem_of_getElem? (i := 116) rfl)) (hw _ (List.mem_of_getElem? (i := 96) rfl)) (by decide) (by decide)) q151a q151c (g := (mkF m 148 #[.val (.int ic), .val (.int i1), .val (.int i2), .val (.int ip), .val (.int ik), .val (.int co), .val (.ref b3), .val (.ref b27), .val (.int na), .val (.int nb), .val (.int (1 : Int32)), .val (.ref b27), .val (.ref b73), .val (.ref b107), .val (.int kk), .val (.int (0 : Int32))] [(.ref b107), (.ref b73)])) rfl (by rw [hml]; rfl) (Steps.refl _) (argsL := [(.ref b107)]) (rest := []) (lenOf pd_14 rfl) rfl (by show 2 * 0 + _ ≤ _; exact Nat.le_of_eq rfl) (hb hby at_148) (fun _ _ => ⟨rfl, rfl, (by decide : 20 + 0 ≤ _), (by decide : 198 + 0 ≤ _)⟩)
    dsimp only [Pt.U, Pt.locs, Pt.cells, Pt.slots] at X151 l151 y151 z151 st151 hQ151
    subst l151 y151 z151
    obtain ⟨rfl, N151q, e151⟩ := hQ151
    have N151 := Fr.app N127 N151q
    obtain ⟨cq152, kq152, q152a, q152b, q152c⟩ := isOf hZ127 e151 Eo127
    obtain ⟨_, _, ⟨T152, L152, k152, n152⟩, -, X152, ⟨Lc152, hQ152, l152, y152, z152⟩, st152⟩ := X151.virtualBack hx (y := (⟨"com/example/makespun/makespun/pool/Slot", "equals", "(Ljava/lang/Object;)Z"⟩ : MethodName)) (z := (⟨"com/example/makespun/makespun/pool/Slot", "equals", "(Ljava/lang/Object;)Z"⟩ : MethodName)) hown127 (mvT hZ127 (hw _ (List.mem_of_getElem? (i := 112) rfl))) (mvT hZ127 (hw _ (List.mem_of_getElem? (i := 113) rfl))) (notFace_of_selects (args := #[]) (mvT hZ127 (hw _ (List.mem_of_getElem? (i := 115) rfl)))) (mvT hZ127 (hw _ (List.mem_of_getElem? (i := 115) rfl))) (mvT hZ127 (hw _ (List.mem_of_getElem? (i := 114) rfl))) (by decide) (backOf (W := 0) (rmE l Z a0 hw [] b107 b73 b27 b3 nb na T127.heap n0 z145 f141 Fm127 Fn127 f142 f143) hZ127 (hw _ (List.mem_of_getElem? (i := 116) rfl)) (hw _ (List.mem_of_getElem? (i := 96) rfl)) (by decide) (by decide)) q152a q152c (g := (mkF m 160 #[.val (.int ic), .val (.int i1), .val (.int i2), .val (.int ip), .val (.int ik), .val (.int co), .val (.ref b3), .val (.ref b27), .val (.int na), .val (.int nb), .val (.int (1 : Int32)), .val (.ref b27), .val (.ref b73), .val (.ref b107), .val (.int kk), .val (.int (0 : Int32))] [(.ref b73), (.ref b107)])) rfl (by rw [hml]; rfl) (Steps.refl _) (argsL := [(.ref b73)]) (rest := []) (lenOf pd_14 rfl) rfl (by show 2 * 0 + _ ≤ _; exact Nat.le_of_eq rfl) (hb hby at_160) (fun _ _ => ⟨rfl, e151, (by decide : 20 + 0 ≤ _), (by decide : 198 + 0 ≤ _)⟩)
    dsimp only [Pt.U, Pt.locs, Pt.cells, Pt.slots] at X152 l152 y152 z152 st152 hQ152
    subst l152 y152 z152
    obtain ⟨rfl, N152q, e152⟩ := hQ152
    have N152 := Fr.app N151 N152q
    obtain ⟨fs, hr, hrun, hended, hEnd⟩ := X152.leaveW (s := s) hS127 (by rw [e152]; exact (Nat.le_refl _)) (v := some (.int (1 : Int32))) (fun h => by rw [Bd.returns] at h; cases h)
    refine ⟨_, _, k149 _ ?_, hrun, hended, _, _, rfl, ?_, ?_, hEnd.1, hEnd.2.1, hEnd.2.2.1, hEnd.2.2.2.mono (by decide) (by decide)⟩
    · show Steps p.tables e below (T127.setTop (mkF m 122 #[.val (.int ic), .val (.int i1), .val (.int i2), .val (.int ip), .val (.int ik), .val (.int co), .val (.ref b3), .val (.ref b27), .val (.int na), .val (.int nb), .val (.int (1 : Int32)), .val (.ref b27), .val (.ref b73), .val (.ref b107), .val (.int kk), .unset] [(.int kk)])) _
      refine XS.ifNo X127r.here hx rfl (hb hby at_122) rfl ((if0 _ _).trans (teq hc150).2) ?_
      show Steps p.tables e below (T127.setTop (mkF m 125 #[.val (.int ic), .val (.int i1), .val (.int i2), .val (.int ip), .val (.int ik), .val (.int co), .val (.ref b3), .val (.ref b27), .val (.int na), .val (.int nb), .val (.int (1 : Int32)), .val (.ref b27), .val (.ref b73), .val (.ref b107), .val (.int kk), .unset] [])) _
      refine XS.iload X127r.here hx rfl (hb hby at_125) rfl ?_
      show Steps p.tables e below (T127.setTop (mkF m 127 #[.val (.int ic), .val (.int i1), .val (.int i2), .val (.int ip), .val (.int ik), .val (.int co), .val (.ref b3), .val (.ref b27), .val (.int na), .val (.int nb), .val (.int (1 : Int32)), .val (.ref b27), .val (.ref b73), .val (.ref b107), .val (.int kk), .unset] [(.int (1 : Int32))])) _
      refine XS.ifYes X127r.here hx rfl (pc0 := 127) (pc' := 141) rfl (hb hby at_127) rfl ((if0 _ _).trans (feq (by decide : ¬ ((1 : Int32) = (0 : Int32)))).2) (by decide) (by decide) ?_
      refine XS.iconst X127r.here hx rfl (hb hby at_141) ?_
      refine XS.istore X127r.here hx rfl (hb hby at_142) rfl (l' := #[.val (.int ic), .val (.int i1), .val (.int i2), .val (.int ip), .val (.int ik), .val (.int co), .val (.ref b3), .val (.ref b27), .val (.int na), .val (.int nb), .val (.int (1 : Int32)), .val (.ref b27), .val (.ref b73), .val (.ref b107), .val (.int kk), .val (.int (0 : Int32))]) rfl ?_
      refine XS.aload X127r.here hx rfl (hb hby at_144) rfl rfl ?_
      refine XS.aload X127r.here hx rfl (hb hby at_146) rfl rfl ?_
      show Steps p.tables e below (T127.setTop (mkF m 148 #[.val (.int ic), .val (.int i1), .val (.int i2), .val (.int ip), .val (.int ik), .val (.int co), .val (.ref b3), .val (.ref b27), .val (.int na), .val (.int nb), .val (.int (1 : Int32)), .val (.ref b27), .val (.ref b73), .val (.ref b107), .val (.int kk), .val (.int (0 : Int32))] [(.ref b107), (.ref b73)])) _
      refine st151.trans ?_
      refine XS.iload X151.here hx rfl (hb hby at_151) rfl ?_
      show Steps p.tables e below (T151.setTop (mkF m 153 #[.val (.int ic), .val (.int i1), .val (.int i2), .val (.int ip), .val (.int ik), .val (.int co), .val (.ref b3), .val (.ref b27), .val (.int na), .val (.int nb), .val (.int (1 : Int32)), .val (.ref b27), .val (.ref b73), .val (.ref b107), .val (.int kk), .val (.int (0 : Int32))] [(.int (0 : Int32)), (.int (own_se b3 b27 na nb))])) _
      refine XS.icmpNo X151.here hx rfl (hb hby at_153) rfl (teq hab).2 ?_
      refine XS.aload X151.here hx rfl (hb hby at_156) rfl rfl ?_
      refine XS.aload X151.here hx rfl (hb hby at_158) rfl rfl ?_
      refine st152.trans ?_
      show Steps p.tables e below (T152.setTop (mkF m 163 #[.val (.int ic), .val (.int i1), .val (.int i2), .val (.int ip), .val (.int ik), .val (.int co), .val (.ref b3), .val (.ref b27), .val (.int na), .val (.int nb), .val (.int (1 : Int32)), .val (.ref b27), .val (.ref b73), .val (.ref b107), .val (.int kk), .val (.int (0 : Int32))] [(.int (own_se b27 b3 nb na))])) _
      refine XS.iload X152.here hx rfl (hb hby at_163) rfl ?_
      show Steps p.tables e below (T152.setTop (mkF m 165 #[.val (.int ic), .val (.int i1), .val (.int i2), .val (.int ip), .val (.int ik), .val (.int co), .val (.ref b3), .val (.ref b27), .val (.int na), .val (.int nb), .val (.int (1 : Int32)), .val (.ref b27), .val (.ref b73), .val (.ref b107), .val (.int kk), .val (.int (0 : Int32))] [(.int (0 : Int32)), (.int (own_se b27 b3 nb na))])) _
      refine XS.icmpNo X152.here hx rfl (hb hby at_165) rfl (teq hba).2 ?_
      refine XS.iconst X152.here hx rfl (hb hby at_168) ?_
      refine XS.goto X152.here hx rfl (pc0 := 169) (pc' := 173) rfl (hb hby at_169) (by decide) (by decide) ?_
      show Steps p.tables e below (T152.setTop (mkF m 173 #[.val (.int ic), .val (.int i1), .val (.int i2), .val (.int ip), .val (.int ik), .val (.int co), .val (.ref b3), .val (.ref b27), .val (.int na), .val (.int nb), .val (.int (1 : Int32)), .val (.ref b27), .val (.ref b73), .val (.ref b107), .val (.int kk), .val (.int (0 : Int32))] [(.int (1 : Int32))])) _
      exact retN X152 hx (t := .boolean) Bd.returns (by simp) (hb hby at_173) hr
    · show own_Q0 Z ic i1 i2 ip ik h0 n0 _ T152.heap _
      rw [e152]
      exact ⟨rfl, N152⟩
    · show CHr Z own_EL s.vm s.heap T152.vm T152.heap
      rw [hh, e152]
      exact CHr.trans R128 (CHv.at X152 hZ127 hEL R128.1)
  · have k153 : ∀ tq, Steps p.tables e below (T127.setTop (mkF m 177 #[.val (.int ic), .val (.int i1), .val (.int i2), .val (.int ip), .val (.int ik), .val (.int co), .val (.ref b3), .val (.ref b27), .val (.int na), .val (.int nb), .val (.int (1 : Int32)), .val (.ref b27), .val (.ref b73), .val (.ref b107), .val (.int kk), .unset] [(.int (1 : Int32)), (.int kk)])) tq → Steps p.tables e below (s₁.setTop (entryFrame m #[(.int ic), (.int i1), (.int i2), (.int ip), (.int ik)] maxLocals)) tq := by
      intro tq kt
      refine k149 tq ?_
      show Steps p.tables e below (T127.setTop (mkF m 122 #[.val (.int ic), .val (.int i1), .val (.int i2), .val (.int ip), .val (.int ik), .val (.int co), .val (.ref b3), .val (.ref b27), .val (.int na), .val (.int nb), .val (.int (1 : Int32)), .val (.ref b27), .val (.ref b73), .val (.ref b107), .val (.int kk), .unset] [(.int kk)])) _
      refine XS.ifYes X127r.here hx rfl (pc0 := 122) (pc' := 174) rfl (hb hby at_122) rfl ((if0 _ _).trans (feq hc150).2) (by decide) (by decide) ?_
      refine XS.iload X127r.here hx rfl (hb hby at_174) rfl ?_
      refine XS.iconst X127r.here hx rfl (hb hby at_176) ?_
      exact kt
    by_cases hc154 : kk = (1 : Int32)
    · obtain ⟨cq155, kq155, q155a, q155b, q155c⟩ := isOf hZ127 rfl f141
      obtain ⟨_, _, ⟨T155, L155, k155, n155⟩, -, X155, ⟨Lc155, hQ155, l155, y155, z155⟩, st155⟩ := X127r.virtualBack hx (y := (⟨"com/example/makespun/makespun/pool/Slot", "equals", "(Ljava/lang/Object;)Z"⟩ : MethodName)) (z := (⟨"com/example/makespun/makespun/pool/Slot", "equals", "(Ljava/lang/Object;)Z"⟩ : MethodName)) hown127 (mvT hZ127 (hw _ (List.mem_of_getElem? (i := 112) rfl))) (mvT hZ127 (hw _ (List.mem_of_getElem? (i := 113) rfl))) (notFace_of_selects (args := #[]) (mvT hZ127 (hw _ (List.mem_of_getElem? (i := 115) rfl)))) (mvT hZ127 (hw _ (List.mem_of_getElem? (i := 115) rfl))) (mvT hZ127 (hw _ (List.mem_of_getElem? (i := 114) rfl))) (by decide) (backOf (W := 0) (rmEn l Z a0 hw [] b73 T127.heap n0 z145) hZ127 (hw _ (List.mem_of_getElem? (i := 116) rfl)) (hw _ (List.mem_of_getElem? (i := 96) rfl)) (by decide) (by decide)) q155a q155c (g := (mkF m 183 #[.val (.int ic), .val (.int i1), .val (.int i2), .val (.int ip), .val (.int ik), .val (.int co), .val (.ref b3), .val (.ref b27), .val (.int na), .val (.int nb), .val (.int (1 : Int32)), .val (.ref b27), .val (.ref b73), .val (.ref b107), .val (.int kk), .unset] [.null, (.ref b73)])) rfl (by rw [hml]; rfl) (Steps.refl _) (argsL := [.null]) (rest := []) (lenOf pd_14 rfl) rfl (by show 2 * 0 + _ ≤ _; exact Nat.le_of_eq rfl) (hb hby at_183) (fun _ _ => ⟨rfl, rfl, (by decide : 20 + 0 ≤ _), (by decide : 198 + 0 ≤ _)⟩)
      dsimp only [Pt.U, Pt.locs, Pt.cells, Pt.slots] at X155 l155 y155 z155 st155 hQ155
      subst l155 y155 z155
      obtain ⟨rfl, N155q, e155⟩ := hQ155
      have N155 := Fr.app N127 N155q
      obtain ⟨fs, hr, hrun, hended, hEnd⟩ := X155.leaveW (s := s) hS127 (by rw [e155]; exact (Nat.le_refl _)) (v := some (.int (1 : Int32))) (fun h => by rw [Bd.returns] at h; cases h)
      refine ⟨_, _, k153 _ ?_, hrun, hended, _, _, rfl, ?_, ?_, hEnd.1, hEnd.2.1, hEnd.2.2.1, hEnd.2.2.2.mono (by decide) (by decide)⟩
      · show Steps p.tables e below (T127.setTop (mkF m 177 #[.val (.int ic), .val (.int i1), .val (.int i2), .val (.int ip), .val (.int ik), .val (.int co), .val (.ref b3), .val (.ref b27), .val (.int na), .val (.int nb), .val (.int (1 : Int32)), .val (.ref b27), .val (.ref b73), .val (.ref b107), .val (.int kk), .unset] [(.int (1 : Int32)), (.int kk)])) _
        refine XS.icmpNo X127r.here hx rfl (hb hby at_177) rfl (teq hc154).2 ?_
        show Steps p.tables e below (T127.setTop (mkF m 180 #[.val (.int ic), .val (.int i1), .val (.int i2), .val (.int ip), .val (.int ik), .val (.int co), .val (.ref b3), .val (.ref b27), .val (.int na), .val (.int nb), .val (.int (1 : Int32)), .val (.ref b27), .val (.ref b73), .val (.ref b107), .val (.int kk), .unset] [])) _
        refine XS.aload X127r.here hx rfl (hb hby at_180) rfl rfl ?_
        show Steps p.tables e below (T127.setTop (mkF m 182 #[.val (.int ic), .val (.int i1), .val (.int i2), .val (.int ip), .val (.int ik), .val (.int co), .val (.ref b3), .val (.ref b27), .val (.int na), .val (.int nb), .val (.int (1 : Int32)), .val (.ref b27), .val (.ref b73), .val (.ref b107), .val (.int kk), .unset] [(.ref b73)])) _
        refine XS.aconstNull X127r.here hx rfl (hb hby at_182) ?_
        refine st155.trans ?_
        show Steps p.tables e below (T155.setTop (mkF m 186 #[.val (.int ic), .val (.int i1), .val (.int i2), .val (.int ip), .val (.int ik), .val (.int co), .val (.ref b3), .val (.ref b27), .val (.int na), .val (.int nb), .val (.int (1 : Int32)), .val (.ref b27), .val (.ref b73), .val (.ref b107), .val (.int kk), .unset] [(.int (0 : Int32))])) _
        refine XS.ifNo X155.here hx rfl (hb hby at_186) rfl ((if0 _ _).trans (teq (by decide : ((0 : Int32) = (0 : Int32)))).2) ?_
        refine XS.iconst X155.here hx rfl (hb hby at_189) ?_
        refine XS.goto X155.here hx rfl (pc0 := 190) (pc' := 194) rfl (hb hby at_190) (by decide) (by decide) ?_
        show Steps p.tables e below (T155.setTop (mkF m 194 #[.val (.int ic), .val (.int i1), .val (.int i2), .val (.int ip), .val (.int ik), .val (.int co), .val (.ref b3), .val (.ref b27), .val (.int na), .val (.int nb), .val (.int (1 : Int32)), .val (.ref b27), .val (.ref b73), .val (.ref b107), .val (.int kk), .unset] [(.int (1 : Int32))])) _
        exact retN X155 hx (t := .boolean) Bd.returns (by simp) (hb hby at_194) hr
      · show own_Q0 Z ic i1 i2 ip ik h0 n0 _ T155.heap _
        rw [e155]
        exact ⟨rfl, N155⟩
      · show CHr Z own_EL s.vm s.heap T155.vm T155.heap
        rw [hh, e155]
        exact CHr.trans R128 (CHv.at X155 hZ127 hEL R128.1)
    · have k156 : ∀ tq, Steps p.tables e below (T127.setTop (mkF m 198 #[.val (.int ic), .val (.int i1), .val (.int i2), .val (.int ip), .val (.int ik), .val (.int co), .val (.ref b3), .val (.ref b27), .val (.int na), .val (.int nb), .val (.int (1 : Int32)), .val (.ref b27), .val (.ref b73), .val (.ref b107), .val (.int kk), .unset] [(.int (2 : Int32)), (.int kk)])) tq → Steps p.tables e below (s₁.setTop (entryFrame m #[(.int ic), (.int i1), (.int i2), (.int ip), (.int ik)] maxLocals)) tq := by
        intro tq kt
        refine k153 tq ?_
        show Steps p.tables e below (T127.setTop (mkF m 177 #[.val (.int ic), .val (.int i1), .val (.int i2), .val (.int ip), .val (.int ik), .val (.int co), .val (.ref b3), .val (.ref b27), .val (.int na), .val (.int nb), .val (.int (1 : Int32)), .val (.ref b27), .val (.ref b73), .val (.ref b107), .val (.int kk), .unset] [(.int (1 : Int32)), (.int kk)])) _
        refine XS.icmpYes X127r.here hx rfl (pc0 := 177) (pc' := 195) rfl (hb hby at_177) rfl (feq hc154).2 (by decide) (by decide) ?_
        show Steps p.tables e below (T127.setTop (mkF m 195 #[.val (.int ic), .val (.int i1), .val (.int i2), .val (.int ip), .val (.int ik), .val (.int co), .val (.ref b3), .val (.ref b27), .val (.int na), .val (.int nb), .val (.int (1 : Int32)), .val (.ref b27), .val (.ref b73), .val (.ref b107), .val (.int kk), .unset] [])) _
        refine XS.iload X127r.here hx rfl (hb hby at_195) rfl ?_
        refine XS.iconst X127r.here hx rfl (hb hby at_197) ?_
        exact kt
      by_cases hc157 : kk = (2 : Int32)
      · obtain ⟨cq158, kq158, q158a, q158b, q158c⟩ := isOf hZ127 rfl f141
        obtain ⟨_, _, ⟨T158, L158, k158, n158⟩, -, X158, ⟨Lc158, hQ158, l158, y158, z158⟩, st158⟩ := X127r.virtualBack hx (y := (⟨"com/example/makespun/makespun/pool/Slot", "equals", "(Ljava/lang/Object;)Z"⟩ : MethodName)) (z := (⟨"com/example/makespun/makespun/pool/Slot", "equals", "(Ljava/lang/Object;)Z"⟩ : MethodName)) hown127 (mvT hZ127 (hw _ (List.mem_of_getElem? (i := 112) rfl))) (mvT hZ127 (hw _ (List.mem_of_getElem? (i := 113) rfl))) (notFace_of_selects (args := #[]) (mvT hZ127 (hw _ (List.mem_of_getElem? (i := 115) rfl)))) (mvT hZ127 (hw _ (List.mem_of_getElem? (i := 115) rfl))) (mvT hZ127 (hw _ (List.mem_of_getElem? (i := 114) rfl))) (by decide) (backOf (W := 0) (rmE l Z a0 hw [] b73 b73 b3 b3 na na T127.heap n0 z145 f141 f142 f143 f142 f143) hZ127 (hw _ (List.mem_of_getElem? (i := 116) rfl)) (hw _ (List.mem_of_getElem? (i := 96) rfl)) (by decide) (by decide)) q158a q158c (g := (mkF m 205 #[.val (.int ic), .val (.int i1), .val (.int i2), .val (.int ip), .val (.int ik), .val (.int co), .val (.ref b3), .val (.ref b27), .val (.int na), .val (.int nb), .val (.int (1 : Int32)), .val (.ref b27), .val (.ref b73), .val (.ref b107), .val (.int kk), .unset] [(.ref b73), (.ref b73)])) rfl (by rw [hml]; rfl) (Steps.refl _) (argsL := [(.ref b73)]) (rest := []) (lenOf pd_14 rfl) rfl (by show 2 * 0 + _ ≤ _; exact Nat.le_of_eq rfl) (hb hby at_205) (fun _ _ => ⟨rfl, rfl, (by decide : 20 + 0 ≤ _), (by decide : 198 + 0 ≤ _)⟩)
        dsimp only [Pt.U, Pt.locs, Pt.cells, Pt.slots] at X158 l158 y158 z158 st158 hQ158
        subst l158 y158 z158
        obtain ⟨rfl, N158q, e158⟩ := hQ158
        have N158 := Fr.app N127 N158q
        obtain ⟨fs, hr, hrun, hended, hEnd⟩ := X158.leaveW (s := s) hS127 (by rw [e158]; exact (Nat.le_refl _)) (v := some (.int (nar .boolean (own_se b3 b3 na na)))) (fun h => by rw [Bd.returns] at h; cases h)
        refine ⟨_, _, k156 _ ?_, hrun, hended, _, _, rfl, ?_, ?_, hEnd.1, hEnd.2.1, hEnd.2.2.1, hEnd.2.2.2.mono (by decide) (by decide)⟩
        · show Steps p.tables e below (T127.setTop (mkF m 198 #[.val (.int ic), .val (.int i1), .val (.int i2), .val (.int ip), .val (.int ik), .val (.int co), .val (.ref b3), .val (.ref b27), .val (.int na), .val (.int nb), .val (.int (1 : Int32)), .val (.ref b27), .val (.ref b73), .val (.ref b107), .val (.int kk), .unset] [(.int (2 : Int32)), (.int kk)])) _
          refine XS.icmpNo X127r.here hx rfl (hb hby at_198) rfl (teq hc157).2 ?_
          refine XS.aload X127r.here hx rfl (hb hby at_201) rfl rfl ?_
          refine XS.aload X127r.here hx rfl (hb hby at_203) rfl rfl ?_
          refine st158.trans ?_
          show Steps p.tables e below (T158.setTop (mkF m 208 #[.val (.int ic), .val (.int i1), .val (.int i2), .val (.int ip), .val (.int ik), .val (.int co), .val (.ref b3), .val (.ref b27), .val (.int na), .val (.int nb), .val (.int (1 : Int32)), .val (.ref b27), .val (.ref b73), .val (.ref b107), .val (.int kk), .unset] [(.int (own_se b3 b3 na na))])) _
          exact retN X158 hx (t := .boolean) Bd.returns (by simp) (hb hby at_208) hr
        · show own_Q0 Z ic i1 i2 ip ik h0 n0 _ T158.heap _
          rw [e158]
          exact ⟨by rw [haa]; rfl, N158⟩
        · show CHr Z own_EL s.vm s.heap T158.vm T158.heap
          rw [hh, e158]
          exact CHr.trans R128 (CHv.at X158 hZ127 hEL R128.1)
      · have k159 : ∀ tq, Steps p.tables e below (T127.setTop (mkF m 212 #[.val (.int ic), .val (.int i1), .val (.int i2), .val (.int ip), .val (.int ik), .val (.int co), .val (.ref b3), .val (.ref b27), .val (.int na), .val (.int nb), .val (.int (1 : Int32)), .val (.ref b27), .val (.ref b73), .val (.ref b107), .val (.int kk), .unset] [(.int (3 : Int32)), (.int kk)])) tq → Steps p.tables e below (s₁.setTop (entryFrame m #[(.int ic), (.int i1), (.int i2), (.int ip), (.int ik)] maxLocals)) tq := by
          intro tq kt
          refine k156 tq ?_
          show Steps p.tables e below (T127.setTop (mkF m 198 #[.val (.int ic), .val (.int i1), .val (.int i2), .val (.int ip), .val (.int ik), .val (.int co), .val (.ref b3), .val (.ref b27), .val (.int na), .val (.int nb), .val (.int (1 : Int32)), .val (.ref b27), .val (.ref b73), .val (.ref b107), .val (.int kk), .unset] [(.int (2 : Int32)), (.int kk)])) _
          refine XS.icmpYes X127r.here hx rfl (pc0 := 198) (pc' := 209) rfl (hb hby at_198) rfl (feq hc157).2 (by decide) (by decide) ?_
          show Steps p.tables e below (T127.setTop (mkF m 209 #[.val (.int ic), .val (.int i1), .val (.int i2), .val (.int ip), .val (.int ik), .val (.int co), .val (.ref b3), .val (.ref b27), .val (.int na), .val (.int nb), .val (.int (1 : Int32)), .val (.ref b27), .val (.ref b73), .val (.ref b107), .val (.int kk), .unset] [])) _
          refine XS.iload X127r.here hx rfl (hb hby at_209) rfl ?_
          refine XS.iconst X127r.here hx rfl (hb hby at_211) ?_
          exact kt
        by_cases hc160 : kk = (3 : Int32)
        · obtain ⟨_, _, ⟨T161, L161, k161, n161⟩, -, X161, ⟨Lc161, hQ161, l161, y161, z161⟩, st161⟩ := Jvm.LawKit.callS X127r hx (y := (⟨"java/lang/Integer", "valueOf", "(I)Ljava/lang/Integer;"⟩ : MethodName)) hown127 (mvT hZ127 (hw _ (List.mem_of_getElem? (i := 121) rfl))) (mvT hZ127 (hw _ (List.mem_of_getElem? (i := 122) rfl))) (mvT hZ127 (hw _ (List.mem_of_getElem? (i := 123) rfl))) (mvT hZ127 (hw _ (List.mem_of_getElem? (i := 124) rfl))) (by decide) (backOf (W := 1) (rmV l Z a0 hw [] na ca cl T127.heap n0 z145 (Kc.keep kp146) na0 na9) hZ127 (hw _ (List.mem_of_getElem? (i := 124) rfl)) (hw _ (List.mem_of_getElem? (i := 123) rfl)) (by decide) (by decide)) (g := (mkF m 219 #[.val (.int ic), .val (.int i1), .val (.int i2), .val (.int ip), .val (.int ik), .val (.int co), .val (.ref b3), .val (.ref b27), .val (.int na), .val (.int nb), .val (.int (1 : Int32)), .val (.ref b27), .val (.ref b73), .val (.ref b107), .val (.int kk), .unset] [(.int na), (.ref b73)])) rfl (by rw [hml]; rfl) (argsL := [(.int na)]) (rest := [(.ref b73)]) (lenOf pd_13 rfl) rfl (by show 2 * 0 + _ ≤ _; exact Nat.le_of_eq rfl) (hb hby at_219) (fun _ _ => ⟨rfl, rfl, (by decide : 20 + 0 ≤ _), (by decide : 198 + 0 ≤ _)⟩)
          dsimp only [Pt.U, Pt.locs, Pt.cells, Pt.slots] at X161 l161 y161 z161 st161 hQ161
          subst l161 y161 z161
          obtain ⟨bl161, rfl, N161q, ev161, Es161⟩ := hQ161
          have N161 := Fr.app N127 N161q
          rw [ev161] at Es161
          obtain ⟨cq162, kq162, q162a, q162b, q162c⟩ := isOf hZ127 ev161 f141
          obtain ⟨_, _, ⟨T162, L162, k162, n162⟩, -, X162, ⟨Lc162, hQ162, l162, y162, z162⟩, st162⟩ := X161.virtualBack hx (y := (⟨"com/example/makespun/makespun/pool/Slot", "equals", "(Ljava/lang/Object;)Z"⟩ : MethodName)) (z := (⟨"com/example/makespun/makespun/pool/Slot", "equals", "(Ljava/lang/Object;)Z"⟩ : MethodName)) hown127 (mvT hZ127 (hw _ (List.mem_of_getElem? (i := 112) rfl))) (mvT hZ127 (hw _ (List.mem_of_getElem? (i := 113) rfl))) (notFace_of_selects (args := #[]) (mvT hZ127 (hw _ (List.mem_of_getElem? (i := 115) rfl)))) (mvT hZ127 (hw _ (List.mem_of_getElem? (i := 115) rfl))) (mvT hZ127 (hw _ (List.mem_of_getElem? (i := 114) rfl))) (by decide) (backOf (W := 0) (rmEi l Z a0 hw [] b73 bl161 T127.heap n0 z145 Es161 hnoi) hZ127 (hw _ (List.mem_of_getElem? (i := 116) rfl)) (hw _ (List.mem_of_getElem? (i := 96) rfl)) (by decide) (by decide)) q162a q162c (g := (mkF m 222 #[.val (.int ic), .val (.int i1), .val (.int i2), .val (.int ip), .val (.int ik), .val (.int co), .val (.ref b3), .val (.ref b27), .val (.int na), .val (.int nb), .val (.int (1 : Int32)), .val (.ref b27), .val (.ref b73), .val (.ref b107), .val (.int kk), .unset] [(.ref bl161), (.ref b73)])) rfl (by rw [hml]; rfl) (Steps.refl _) (argsL := [(.ref bl161)]) (rest := []) (lenOf pd_14 rfl) rfl (by show 2 * 0 + _ ≤ _; exact Nat.le_of_eq rfl) (hb hby at_222) (fun _ _ => ⟨rfl, ev161, (by decide : 20 + 0 ≤ _), (by decide : 198 + 0 ≤ _)⟩)
          dsimp only [Pt.U, Pt.locs, Pt.cells, Pt.slots] at X162 l162 y162 z162 st162 hQ162
          subst l162 y162 z162
          obtain ⟨rfl, N162q, e162⟩ := hQ162
          have N162 := Fr.app N161 N162q
          obtain ⟨fs, hr, hrun, hended, hEnd⟩ := X162.leaveW (s := s) hS127 (by rw [e162]; exact (Nat.le_refl _)) (v := some (.int (1 : Int32))) (fun h => by rw [Bd.returns] at h; cases h)
          refine ⟨_, _, k159 _ ?_, hrun, hended, _, _, rfl, ?_, ?_, hEnd.1, hEnd.2.1, hEnd.2.2.1, hEnd.2.2.2.mono (by decide) (by decide)⟩
          · show Steps p.tables e below (T127.setTop (mkF m 212 #[.val (.int ic), .val (.int i1), .val (.int i2), .val (.int ip), .val (.int ik), .val (.int co), .val (.ref b3), .val (.ref b27), .val (.int na), .val (.int nb), .val (.int (1 : Int32)), .val (.ref b27), .val (.ref b73), .val (.ref b107), .val (.int kk), .unset] [(.int (3 : Int32)), (.int kk)])) _
            refine XS.icmpNo X127r.here hx rfl (hb hby at_212) rfl (teq hc160).2 ?_
            refine XS.aload X127r.here hx rfl (hb hby at_215) rfl rfl ?_
            refine XS.iload X127r.here hx rfl (hb hby at_217) rfl ?_
            refine st161 _ ?_
            show Steps p.tables e below (T161.setTop (mkF m 222 #[.val (.int ic), .val (.int i1), .val (.int i2), .val (.int ip), .val (.int ik), .val (.int co), .val (.ref b3), .val (.ref b27), .val (.int na), .val (.int nb), .val (.int (1 : Int32)), .val (.ref b27), .val (.ref b73), .val (.ref b107), .val (.int kk), .unset] [(.ref bl161), (.ref b73)])) _
            refine st162.trans ?_
            show Steps p.tables e below (T162.setTop (mkF m 225 #[.val (.int ic), .val (.int i1), .val (.int i2), .val (.int ip), .val (.int ik), .val (.int co), .val (.ref b3), .val (.ref b27), .val (.int na), .val (.int nb), .val (.int (1 : Int32)), .val (.ref b27), .val (.ref b73), .val (.ref b107), .val (.int kk), .unset] [(.int (0 : Int32))])) _
            refine XS.ifNo X162.here hx rfl (hb hby at_225) rfl ((if0 _ _).trans (teq (by decide : ((0 : Int32) = (0 : Int32)))).2) ?_
            refine XS.iconst X162.here hx rfl (hb hby at_228) ?_
            refine XS.goto X162.here hx rfl (pc0 := 229) (pc' := 233) rfl (hb hby at_229) (by decide) (by decide) ?_
            show Steps p.tables e below (T162.setTop (mkF m 233 #[.val (.int ic), .val (.int i1), .val (.int i2), .val (.int ip), .val (.int ik), .val (.int co), .val (.ref b3), .val (.ref b27), .val (.int na), .val (.int nb), .val (.int (1 : Int32)), .val (.ref b27), .val (.ref b73), .val (.ref b107), .val (.int kk), .unset] [(.int (1 : Int32))])) _
            exact retN X162 hx (t := .boolean) Bd.returns (by simp) (hb hby at_233) hr
          · show own_Q0 Z ic i1 i2 ip ik h0 n0 _ T162.heap _
            rw [e162]
            exact ⟨rfl, N162⟩
          · show CHr Z own_EL s.vm s.heap T162.vm T162.heap
            rw [hh, e162]
            exact CHr.trans R128 (CHv.at X162 hZ127 hEL R128.1)
        · obtain ⟨cq163, kq163, q163a, q163b, q163c⟩ := isOf hZ127 rfl f141
          obtain ⟨_, _, ⟨T163, L163, k163, n163⟩, -, X163, ⟨Lc163, hQ163, l163, y163, z163⟩, st163⟩ := X127r.virtualBack hx (y := (⟨"com/example/makespun/makespun/pool/Slot", "equals", "(Ljava/lang/Object;)Z"⟩ : MethodName)) (z := (⟨"com/example/makespun/makespun/pool/Slot", "equals", "(Ljava/lang/Object;)Z"⟩ : MethodName)) hown127 (mvT hZ127 (hw _ (List.mem_of_getElem? (i := 112) rfl))) (mvT hZ127 (hw _ (List.mem_of_getElem? (i := 113) rfl))) (notFace_of_selects (args := #[]) (mvT hZ127 (hw _ (List.mem_of_getElem? (i := 115) rfl)))) (mvT hZ127 (hw _ (List.mem_of_getElem? (i := 115) rfl))) (mvT hZ127 (hw _ (List.mem_of_getElem? (i := 114) rfl))) (by decide) (backOf (W := 0) (rmEm l Z a0 hw [] b73 b3 T127.heap n0 z145 f129 hnom) hZ127 (hw _ (List.mem_of_getElem? (i := 116) rfl)) (hw _ (List.mem_of_getElem? (i := 96) rfl)) (by decide) (by decide)) q163a q163c (g := (mkF m 238 #[.val (.int ic), .val (.int i1), .val (.int i2), .val (.int ip), .val (.int ik), .val (.int co), .val (.ref b3), .val (.ref b27), .val (.int na), .val (.int nb), .val (.int (1 : Int32)), .val (.ref b27), .val (.ref b73), .val (.ref b107), .val (.int kk), .unset] [(.ref b3), (.ref b73)])) rfl (by rw [hml]; rfl) (Steps.refl _) (argsL := [(.ref b3)]) (rest := []) (lenOf pd_14 rfl) rfl (by show 2 * 0 + _ ≤ _; exact Nat.le_of_eq rfl) (hb hby at_238) (fun _ _ => ⟨rfl, rfl, (by decide : 20 + 0 ≤ _), (by decide : 198 + 0 ≤ _)⟩)
          dsimp only [Pt.U, Pt.locs, Pt.cells, Pt.slots] at X163 l163 y163 z163 st163 hQ163
          subst l163 y163 z163
          obtain ⟨rfl, N163q, e163⟩ := hQ163
          have N163 := Fr.app N127 N163q
          obtain ⟨fs, hr, hrun, hended, hEnd⟩ := X163.leaveW (s := s) hS127 (by rw [e163]; exact (Nat.le_refl _)) (v := some (.int (1 : Int32))) (fun h => by rw [Bd.returns] at h; cases h)
          refine ⟨_, _, k159 _ ?_, hrun, hended, _, _, rfl, ?_, ?_, hEnd.1, hEnd.2.1, hEnd.2.2.1, hEnd.2.2.2.mono (by decide) (by decide)⟩
          · show Steps p.tables e below (T127.setTop (mkF m 212 #[.val (.int ic), .val (.int i1), .val (.int i2), .val (.int ip), .val (.int ik), .val (.int co), .val (.ref b3), .val (.ref b27), .val (.int na), .val (.int nb), .val (.int (1 : Int32)), .val (.ref b27), .val (.ref b73), .val (.ref b107), .val (.int kk), .unset] [(.int (3 : Int32)), (.int kk)])) _
            refine XS.icmpYes X127r.here hx rfl (pc0 := 212) (pc' := 234) rfl (hb hby at_212) rfl (feq hc160).2 (by decide) (by decide) ?_
            refine XS.aload X127r.here hx rfl (hb hby at_234) rfl rfl ?_
            refine XS.aload X127r.here hx rfl (hb hby at_236) rfl rfl ?_
            show Steps p.tables e below (T127.setTop (mkF m 238 #[.val (.int ic), .val (.int i1), .val (.int i2), .val (.int ip), .val (.int ik), .val (.int co), .val (.ref b3), .val (.ref b27), .val (.int na), .val (.int nb), .val (.int (1 : Int32)), .val (.ref b27), .val (.ref b73), .val (.ref b107), .val (.int kk), .unset] [(.ref b3), (.ref b73)])) _
            refine st163.trans ?_
            show Steps p.tables e below (T163.setTop (mkF m 241 #[.val (.int ic), .val (.int i1), .val (.int i2), .val (.int ip), .val (.int ik), .val (.int co), .val (.ref b3), .val (.ref b27), .val (.int na), .val (.int nb), .val (.int (1 : Int32)), .val (.ref b27), .val (.ref b73), .val (.ref b107), .val (.int kk), .unset] [(.int (0 : Int32))])) _
            refine XS.ifNo X163.here hx rfl (hb hby at_241) rfl ((if0 _ _).trans (teq (by decide : ((0 : Int32) = (0 : Int32)))).2) ?_
            refine XS.iconst X163.here hx rfl (hb hby at_244) ?_
            refine XS.goto X163.here hx rfl (pc0 := 245) (pc' := 249) rfl (hb hby at_245) (by decide) (by decide) ?_
            show Steps p.tables e below (T163.setTop (mkF m 249 #[.val (.int ic), .val (.int i1), .val (.int i2), .val (.int ip), .val (.int ik), .val (.int co), .val (.ref b3), .val (.ref b27), .val (.int na), .val (.int nb), .val (.int (1 : Int32)), .val (.ref b27), .val (.ref b73), .val (.ref b107), .val (.int kk), .unset] [(.int (1 : Int32))])) _
            exact retN X163 hx (t := .boolean) Bd.returns (by simp) (hb hby at_249) hr
          · show own_Q0 Z ic i1 i2 ip ik h0 n0 _ T163.heap _
            rw [e163]
            exact ⟨rfl, N163⟩
          · show CHr Z own_EL s.vm s.heap T163.vm T163.heap
            rw [hh, e163]
            exact CHr.trans R128 (CHv.at X163 hZ127 hEL R128.1)
set_option maxRecDepth 65536 in
set_option maxHeartbeats 40000000 in
theorem rm0_0 (l : Launch) (Z : State) (a0 : Array Value) (hw : ∀ d ∈ tables_1, d.before a0 Z = true) (ws : List Jvm.Cond) (ic i1 i2 ip ik : Int32) (w : Int32) (ci cA : Addr) (clA : Cell) (ca : Addr) (cl : Cell) (h0 : Heap) (n0 : Nat) (Z0 : n0 ≤ h0.size) (J : own_J Z h0 w ci cA clA) (Kc : own_K Z h0 ca cl) (hot : (ip &&& (1 : Int32)) = (0 : Int32)) :
    MetFree l x (head1 (Jvm.Cond.code x code maxLocals ret :: ws) room_1) (fun a U => a = #[(.int ic), (.int i1), (.int i2), (.int ip), (.int ik)] ∧ Z.Warmed39 U.vm ∧ U.heap = h0 ∧ CHv Z own_EL U.vm h0) (fun _ _ _ _ _ => True) (fun _ U o U' => ∃ v L, o = .returned v ∧ own_Q0 Z ic i1 i2 ip ik h0 n0 v U'.heap L ∧ CHr Z own_EL U.vm U.heap U'.vm U'.heap ∧ ReturnedEndW U o U' L room_1.cells room_1.slots) := by
  refine MetFree.of_bodySF (plainFor_of_name pn_0) hisR ?_
  intro p e s m args below meth c s₁ Bd hml0 hP hK
  obtain ⟨rfl, hZ, hh, hCH⟩ := hP
  have hx := Bd.exec
  have hby := Bd.bytes
  have hml : c.maxLocals = 16 := hml0
  have hown : s.vm.findClass "com/example/makespun/makespun/pool/SlotEqualsPinLaw" = some m.cls := findClass_of_methodNamed Bd.named
  have hnm := (name_of_methodNamed Bd.named Bd.method).1
  have X0 : Stand p l e room_1 (s.setVm s.vm) m #[(.int ic), (.int i1), (.int i2), (.int ip), (.int ik)] below meth c s₁ [] 0 0 := Stand.of_body Bd
  have e0 : s₁.heap = h0 := by rw [← hh, Bd.state]; rfl
  have N0 := Fr.nil n0
  have pre0 : ∀ tq, Steps p.tables e below (s₁.setTop (mkF m 0 #[.val (.int ic), .val (.int i1), .val (.int i2), .val (.int ip), .val (.int ik), .unset, .unset, .unset, .unset, .unset, .unset, .unset, .unset, .unset, .unset, .unset] [])) tq → Steps p.tables e below (s₁.setTop (entryFrame m #[(.int ic), (.int i1), (.int i2), (.int ip), (.int ik)] maxLocals)) tq := fun tq k => castTop (ef_0 m ic i1 i2 ip ik) k
  have hS0 : s.Since s.vm 0 := (State.WarmedH.refl s).since 0
  have R0 := CHr.refl hCH
  have hEL := own_ew hw
  have hnom : own_No Z "com/example/makespun/makespun/pool/Machine" "com/example/makespun/makespun/pool/Slot" := own_no (hw _ (List.mem_of_getElem? (i := 119) rfl)) (hw _ (List.mem_of_getElem? (i := 95) rfl)) (NS.step (hw _ (List.mem_of_getElem? (i := 119) rfl)) (own_root (hw _ (List.mem_of_getElem? (i := 120) rfl)) (hw _ (List.mem_of_getElem? (i := 95) rfl)) (by decide)) (by decide)) (by decide)
  have hnoi : own_No Z "java/lang/Integer" "com/example/makespun/makespun/pool/Slot" := own_no (hw _ (List.mem_of_getElem? (i := 128) rfl)) (hw _ (List.mem_of_getElem? (i := 95) rfl)) (NS.step (hw _ (List.mem_of_getElem? (i := 128) rfl)) (NS.step (hw _ (List.mem_of_getElem? (i := 129) rfl)) (own_root (hw _ (List.mem_of_getElem? (i := 120) rfl)) (hw _ (List.mem_of_getElem? (i := 95) rfl)) (by decide)) (by decide)) (by decide)) (by decide)
  have k1 : ∀ tq, Steps p.tables e below (s₁.setTop (mkF m 8 #[.val (.int ic), .val (.int i1), .val (.int i2), .val (.int ip), .val (.int ik), .val (.int ((ic &&& (7 : Int32)) + (1 : Int32))), .unset, .unset, .unset, .unset, .unset, .unset, .unset, .unset, .unset, .unset] [])) tq → Steps p.tables e below (s₁.setTop (entryFrame m #[(.int ic), (.int i1), (.int i2), (.int ip), (.int ik)] maxLocals)) tq := by
    intro tq kt
    refine pre0 tq ?_
    refine XS.iloadN X0.here hx rfl (hb hby at_0) rfl ?_
    refine XS.bipush X0.here hx rfl (hb hby at_1) ?_
    refine XS.iand X0.here hx rfl (hb hby at_3) rfl ?_
    refine XS.iconst X0.here hx rfl (hb hby at_4) ?_
    show Steps p.tables e below (s₁.setTop (mkF m 5 #[.val (.int ic), .val (.int i1), .val (.int i2), .val (.int ip), .val (.int ik), .unset, .unset, .unset, .unset, .unset, .unset, .unset, .unset, .unset, .unset, .unset] [(.int (1 : Int32)), (.int (ic &&& (7 : Int32)))])) _
    refine XS.iadd X0.here hx rfl (hb hby at_5) rfl ?_
    refine XS.istore X0.here hx rfl (hb hby at_6) rfl (l' := #[.val (.int ic), .val (.int i1), .val (.int i2), .val (.int ip), .val (.int ik), .val (.int ((ic &&& (7 : Int32)) + (1 : Int32))), .unset, .unset, .unset, .unset, .unset, .unset, .unset, .unset, .unset, .unset]) rfl ?_
    exact kt
  obtain ⟨co, hcoe⟩ : ∃ z : Int32, z = ((ic &&& (7 : Int32)) + (1 : Int32)) := ⟨_, rfl⟩
  have k2 : ∀ tq, Steps p.tables e below (s₁.setTop (mkF m 8 #[.val (.int ic), .val (.int i1), .val (.int i2), .val (.int ip), .val (.int ik), .val (.int co), .unset, .unset, .unset, .unset, .unset, .unset, .unset, .unset, .unset, .unset] [])) tq → Steps p.tables e below (s₁.setTop (entryFrame m #[(.int ic), (.int i1), (.int i2), (.int ip), (.int ik)] maxLocals)) tq := by
    intro tq kt
    subst hcoe
    exact k1 tq kt
  obtain ⟨hco, hco9⟩ := own_co ic
  rw [← hcoe] at hco hco9
  have hc0 : co ≠ 0 := fun q => by subst q; exact absurd hco (by decide)
  obtain ⟨T3, h3, X3, e3, E3, A3, D3, U3, st3⟩ := newO X0 hx hZ hown (hw _ (List.mem_of_getElem? (i := 0) rfl)) (hw _ (List.mem_of_getElem? (i := 1) rfl)) (hw _ (List.mem_of_getElem? (i := 2) rfl)) e0 (g := (mkF m 8 #[.val (.int ic), .val (.int i1), .val (.int i2), .val (.int ip), .val (.int ik), .val (.int co), .unset, .unset, .unset, .unset, .unset, .unset, .unset, .unset, .unset, .unset] [])) rfl (hb hby at_8) (by decide) (by decide)
  obtain ⟨b3, g3⟩ : ∃ z, z = h0.size := ⟨_, rfl⟩
  rw [← g3] at A3 D3 U3 st3
  have g_b3 : n0 ≤ b3 := Nat.le_trans Z0 (Nat.le_of_eq g3.symm)
  have sz_b3 : h0.size ≤ b3 := Nat.le_trans (Keep.refl h0 []).1 (Nat.le_of_eq g3.symm)
  have z4 := Nat.le_trans Z0 E3.1
  have kp5 := (Keep.refl h0 []).ext E3
  have R6 := CHr.trans R0 (CHr.ext E3 R0.1)
  have hk7 := Nat.le_trans (Nat.zero_le _) E3.1
  have F_name_b3 : Fld Z h3 b3 "com/example/makespun/makespun/pool/Machine" "name" "Ljava/lang/String;" .null := D3 (Or.inr (hw _ (List.mem_of_getElem? (i := 84) rfl))) (ty := (.object "java/lang/String")) (by decide)
  have F_speed_b3 : Fld Z h3 b3 "com/example/makespun/makespun/pool/Machine" "speed" "D" (.double (0 : UInt64)) := D3 (Or.inr (hw _ (List.mem_of_getElem? (i := 86) rfl))) (ty := .double) (by decide)
  have F_cores_b3 : Fld Z h3 b3 "com/example/makespun/makespun/pool/Machine" "cores" "I" (.int (0 : Int32)) := D3 (Or.inr (hw _ (List.mem_of_getElem? (i := 88) rfl))) (ty := .int) (by decide)
  have F_pricePerHour_b3 : Fld Z h3 b3 "com/example/makespun/makespun/pool/Machine" "pricePerHour" "D" (.double (0 : UInt64)) := D3 (Or.inr (hw _ (List.mem_of_getElem? (i := 90) rfl))) (ty := .double) (by decide)
  have F_storageBytes_b3 : Fld Z h3 b3 "com/example/makespun/makespun/pool/Machine" "storageBytes" "J" (.long (0 : Int64)) := D3 (Or.inr (hw _ (List.mem_of_getElem? (i := 92) rfl))) (ty := .long) (by decide)
  obtain ⟨xa8, T8, h8, n8, xb8, kb8, X8, e8, E8, hS8, hk8, hZ8, hown8, Ex8, Fc8, Fv8, Vb8, la8, lb8, C8, li8, ne8, st8⟩ := ldcCH X3 hx hZ hown (hw _ (List.mem_of_getElem? (i := 3) rfl)) (own_sa hw) e3 hS0 hk7 hEL (List.mem_of_getElem? (i := 0) rfl) R6.1 (vs := [(.int (97 : Int32))]) (z := (1 : Int32)) (by decide) (by decide) rfl (g := (mkF m 12 #[.val (.int ic), .val (.int i1), .val (.int i2), .val (.int ip), .val (.int ik), .val (.int co), .unset, .unset, .unset, .unset, .unset, .unset, .unset, .unset, .unset, .unset] [(.ref b3), (.ref b3)])) rfl (hb hby at_12) (n := 4) (by decide) (by decide) (by decide) (by decide)
  have f9 := A3.ext E8
  have f10 := F_name_b3.ext E8
  have f11 := F_speed_b3.ext E8
  have f12 := F_cores_b3.ext E8
  have f13 := F_pricePerHour_b3.ext E8
  have f14 := F_storageBytes_b3.ext E8
  have z15 := Nat.le_trans z4 E8.1
  have kp16 := kp5.ext E8
  have R17 := CHr.trans R6 C8
  have ne_b3_xa8 : b3 ≠ xa8 := (ne8 _ (Safe.exa (EL := own_EL) hZ8.alike f9 (by decide) (by decide))).1
  have ne_b3_xb8 : b3 ≠ xb8 := (ne8 _ (Safe.exa (EL := own_EL) hZ8.alike f9 (by decide) (by decide))).2
  obtain ⟨_, _, ⟨T18, L18, k18, n18⟩, -, X18, hT18, hG18, ⟨Lc18, hQ18, l18, y18, z18, C18⟩, st18⟩ := X8.specialBackS hx (y := (⟨"com/example/makespun/makespun/pool/Machine", "<init>", "(Ljava/lang/String;DIDJ)V"⟩ : MethodName)) rfl hown8 (mvT hZ8 (hw _ (List.mem_of_getElem? (i := 11) rfl))) (mvT hZ8 (hw _ (List.mem_of_getElem? (i := 12) rfl))) (mvT hZ8 (hw _ (List.mem_of_getElem? (i := 13) rfl))) (by decide) (backOfSH (W := 1) (rmM l Z a0 hw [] b3 xa8 co xb8 kb8 w ci cA clA h8 n0 z15 f9 f10 f11 f12 f13 f14 g_b3 ⟨Ex8, Fc8, Fv8, Vb8⟩ (J.keep kp16) hco) hZ8 (hw _ (List.mem_of_getElem? (i := 13) rfl)) (hw _ (List.mem_of_getElem? (i := 2) rfl)) (by decide) (by decide) hEL R17.1) (g := (mkF m 19 #[.val (.int ic), .val (.int i1), .val (.int i2), .val (.int ip), .val (.int ik), .val (.int co), .unset, .unset, .unset, .unset, .unset, .unset, .unset, .unset, .unset, .unset] [(.long (0 : Int64)), (.double FP.dconst0), (.int co), (.double FP.dconst1), (.ref xa8), (.ref b3), (.ref b3)])) rfl (by rw [hml]; rfl) (Steps.refl _) (a := b3) (argsL := [(.ref xa8), (.double FP.dconst1), (.int co), (.double FP.dconst0), (.long (0 : Int64))]) (rest := [(.ref b3)]) (lenOf pd_11 rfl) rfl (by show 2 * 0 + _ ≤ _; exact Nat.le_of_eq rfl) (hb hby at_19) (fun _ _ => ⟨rfl, e8, (by decide : 3 + 4 ≤ _), (by decide : 13 + 52 ≤ _)⟩)
  dsimp only [Pt.U, Pt.locs, Pt.cells, Pt.slots] at X18 l18 y18 z18 st18 hQ18 hT18 hG18 C18
  subst l18 y18 z18
  have hS18 := foldS (T := T8) hS8 (by rw [e8]; exact hk8) hT18 hG18
  have hZ18 : Z.Warmed39 T18.vm := State.Warmed39.trans (t := s.setVm T8.vm) hZ8 hT18.1
  have hown18 : T18.vm.findClass "com/example/makespun/makespun/pool/SlotEqualsPinLaw" = some m.cls := by rw [hT18.1.alike.findClass]; exact hown8
  have X18r : Stand p l e _ (s.setVm T18.vm) m _ below meth c T18 _ _ _ := X18
  obtain ⟨rfl, N18q, K18, Eo18, Fk18⟩ := hQ18
  have N18 := Fr.app N0 N18q
  have R19 := CHr.trans R17 C18
  have f20 := f9.keep K18
  have f21 := Ex8.keep K18
  have f22 := Fc8.keep K18 (ninS (Ne.symm ne_b3_xa8) nin0)
  have f23 := Fv8.keep K18 (ninS (Ne.symm ne_b3_xa8) nin0)
  have f24 := Vb8.keep K18 (ninS (Ne.symm ne_b3_xb8) nin0)
  have z25 := Nat.le_trans z15 K18.1
  have kp26 := Keep.trans kp16 K18 (allS (Or.inr sz_b3) all0)
  obtain ⟨T27, h27, X27, e27, E27, A27, D27, U27, st27⟩ := newO X18r hx hZ18 hown18 (hw _ (List.mem_of_getElem? (i := 0) rfl)) (hw _ (List.mem_of_getElem? (i := 1) rfl)) (hw _ (List.mem_of_getElem? (i := 2) rfl)) rfl (g := (mkF m 24 #[.val (.int ic), .val (.int i1), .val (.int i2), .val (.int ip), .val (.int ik), .val (.int co), .val (.ref b3), .unset, .unset, .unset, .unset, .unset, .unset, .unset, .unset, .unset] [])) rfl (hb hby at_24) (by decide) (by decide)
  obtain ⟨b27, g27⟩ : ∃ z, z = T18.heap.size := ⟨_, rfl⟩
  rw [← g27] at A27 D27 U27 st27
  have ne_b3_b27 : b3 ≠ b27 := Nat.ne_of_lt (Nat.lt_of_lt_of_le Eo18.lt (Nat.le_of_eq g27.symm))
  have ne_xa8_b27 : xa8 ≠ b27 := Nat.ne_of_lt (Nat.lt_of_lt_of_le f21.lt (Nat.le_of_eq g27.symm))
  have ne_xb8_b27 : xb8 ≠ b27 := Nat.ne_of_lt (Nat.lt_of_lt_of_le f24.lt (Nat.le_of_eq g27.symm))
  have g_b27 : n0 ≤ b27 := Nat.le_trans z25 (Nat.le_of_eq g27.symm)
  have sz_b27 : h0.size ≤ b27 := Nat.le_trans kp26.1 (Nat.le_of_eq g27.symm)
  have f28 := Eo18.ext E27
  have f29 := f21.ext E27
  have f30 := f22.ext E27
  have f31 := f23.ext E27
  have f32 := f24.ext E27
  have f33 := Fk18.ext E27
  have z34 := Nat.le_trans z25 E27.1
  have kp35 := kp26.ext E27
  have R36 := CHr.trans R19 (CHr.ext E27 R19.1)
  have hk37 := Nat.le_trans (Nat.le_refl _) E27.1
  have F_name_b27 : Fld Z h27 b27 "com/example/makespun/makespun/pool/Machine" "name" "Ljava/lang/String;" .null := D27 (Or.inr (hw _ (List.mem_of_getElem? (i := 84) rfl))) (ty := (.object "java/lang/String")) (by decide)
  have F_speed_b27 : Fld Z h27 b27 "com/example/makespun/makespun/pool/Machine" "speed" "D" (.double (0 : UInt64)) := D27 (Or.inr (hw _ (List.mem_of_getElem? (i := 86) rfl))) (ty := .double) (by decide)
  have F_cores_b27 : Fld Z h27 b27 "com/example/makespun/makespun/pool/Machine" "cores" "I" (.int (0 : Int32)) := D27 (Or.inr (hw _ (List.mem_of_getElem? (i := 88) rfl))) (ty := .int) (by decide)
  have F_pricePerHour_b27 : Fld Z h27 b27 "com/example/makespun/makespun/pool/Machine" "pricePerHour" "D" (.double (0 : UInt64)) := D27 (Or.inr (hw _ (List.mem_of_getElem? (i := 90) rfl))) (ty := .double) (by decide)
  have F_storageBytes_b27 : Fld Z h27 b27 "com/example/makespun/makespun/pool/Machine" "storageBytes" "J" (.long (0 : Int64)) := D27 (Or.inr (hw _ (List.mem_of_getElem? (i := 92) rfl))) (ty := .long) (by decide)
  obtain ⟨xa38, T38, h38, n38, xb38, kb38, X38, e38, E38, hS38, hk38, hZ38, hown38, Ex38, Fc38, Fv38, Vb38, la38, lb38, C38, li38, ne38, st38⟩ := ldcCH X27 hx hZ18 hown18 (hw _ (List.mem_of_getElem? (i := 3) rfl)) (own_sa hw) e27 hS18 hk37 hEL (List.mem_of_getElem? (i := 0) rfl) R36.1 (vs := [(.int (97 : Int32))]) (z := (1 : Int32)) (by decide) (by decide) rfl (g := (mkF m 28 #[.val (.int ic), .val (.int i1), .val (.int i2), .val (.int ip), .val (.int ik), .val (.int co), .val (.ref b3), .unset, .unset, .unset, .unset, .unset, .unset, .unset, .unset, .unset] [(.ref b27), (.ref b27)])) rfl (hb hby at_28) (n := 4) (by decide) (by decide) (by decide) (by decide)
  have f39 := f28.ext E38
  have f40 := f29.ext E38
  have f41 := f30.ext E38
  have f42 := f31.ext E38
  have f43 := f32.ext E38
  have f44 := f33.ext E38
  have f45 := A27.ext E38
  have f46 := F_name_b27.ext E38
  have f47 := F_speed_b27.ext E38
  have f48 := F_cores_b27.ext E38
  have f49 := F_pricePerHour_b27.ext E38
  have f50 := F_storageBytes_b27.ext E38
  have z51 := Nat.le_trans z34 E38.1
  have kp52 := kp35.ext E38
  have R53 := CHr.trans R36 C38
  have ne_b3_xa38 : b3 ≠ xa38 := (ne38 _ (Safe.exa (EL := own_EL) hZ38.alike f39 (by decide) (by decide))).1
  have ne_b3_xb38 : b3 ≠ xb38 := (ne38 _ (Safe.exa (EL := own_EL) hZ38.alike f39 (by decide) (by decide))).2
  have ne_b27_xa38 : b27 ≠ xa38 := (ne38 _ (Safe.exa (EL := own_EL) hZ38.alike f45 (by decide) (by decide))).1
  have ne_b27_xb38 : b27 ≠ xb38 := (ne38 _ (Safe.exa (EL := own_EL) hZ38.alike f45 (by decide) (by decide))).2
  obtain ⟨_, _, ⟨T54, L54, k54, n54⟩, -, X54, hT54, hG54, ⟨Lc54, hQ54, l54, y54, z54, C54⟩, st54⟩ := X38.specialBackS hx (y := (⟨"com/example/makespun/makespun/pool/Machine", "<init>", "(Ljava/lang/String;DIDJ)V"⟩ : MethodName)) rfl hown38 (mvT hZ38 (hw _ (List.mem_of_getElem? (i := 11) rfl))) (mvT hZ38 (hw _ (List.mem_of_getElem? (i := 12) rfl))) (mvT hZ38 (hw _ (List.mem_of_getElem? (i := 13) rfl))) (by decide) (backOfSH (W := 1) (rmM l Z a0 hw [] b27 xa38 co xb38 kb38 w ci cA clA h38 n0 z51 f45 f46 f47 f48 f49 f50 g_b27 ⟨Ex38, Fc38, Fv38, Vb38⟩ (J.keep kp52) hco) hZ38 (hw _ (List.mem_of_getElem? (i := 13) rfl)) (hw _ (List.mem_of_getElem? (i := 2) rfl)) (by decide) (by decide) hEL R53.1) (g := (mkF m 35 #[.val (.int ic), .val (.int i1), .val (.int i2), .val (.int ip), .val (.int ik), .val (.int co), .val (.ref b3), .unset, .unset, .unset, .unset, .unset, .unset, .unset, .unset, .unset] [(.long (0 : Int64)), (.double FP.dconst0), (.int co), (.double FP.dconst1), (.ref xa38), (.ref b27), (.ref b27)])) rfl (by rw [hml]; rfl) (Steps.refl _) (a := b27) (argsL := [(.ref xa38), (.double FP.dconst1), (.int co), (.double FP.dconst0), (.long (0 : Int64))]) (rest := [(.ref b27)]) (lenOf pd_11 rfl) rfl (by show 2 * 0 + _ ≤ _; exact Nat.le_of_eq rfl) (hb hby at_35) (fun _ _ => ⟨rfl, e38, (by decide : 10 + 4 ≤ _), (by decide : 78 + 52 ≤ _)⟩)
  dsimp only [Pt.U, Pt.locs, Pt.cells, Pt.slots] at X54 l54 y54 z54 st54 hQ54 hT54 hG54 C54
  subst l54 y54 z54
  have hS54 := foldS (T := T38) hS38 (by rw [e38]; exact hk38) hT54 hG54
  have hZ54 : Z.Warmed39 T54.vm := State.Warmed39.trans (t := s.setVm T38.vm) hZ38 hT54.1
  have hown54 : T54.vm.findClass "com/example/makespun/makespun/pool/SlotEqualsPinLaw" = some m.cls := by rw [hT54.1.alike.findClass]; exact hown38
  have X54r : Stand p l e _ (s.setVm T54.vm) m _ below meth c T54 _ _ _ := X54
  obtain ⟨rfl, N54q, K54, Eo54, Fk54⟩ := hQ54
  have N54 := Fr.app N18 N54q
  have R55 := CHr.trans R53 C54
  have f56 := f39.keep K54
  have f57 := f40.keep K54
  have f58 := f41.keep K54 (ninS ne_xa8_b27 nin0)
  have f59 := f42.keep K54 (ninS ne_xa8_b27 nin0)
  have f60 := f43.keep K54 (ninS ne_xb8_b27 nin0)
  have f61 := f44.keep K54 (ninS ne_b3_b27 nin0)
  have f62 := f45.keep K54
  have f63 := Ex38.keep K54
  have f64 := Fc38.keep K54 (ninS (Ne.symm ne_b27_xa38) nin0)
  have f65 := Fv38.keep K54 (ninS (Ne.symm ne_b27_xa38) nin0)
  have f66 := Vb38.keep K54 (ninS (Ne.symm ne_b27_xb38) nin0)
  have z67 := Nat.le_trans z51 K54.1
  have kp68 := Keep.trans kp52 K54 (allS (Or.inr sz_b27) all0)
  have k69 : ∀ tq, Steps p.tables e below (T54.setTop (mkF m 49 #[.val (.int ic), .val (.int i1), .val (.int i2), .val (.int ip), .val (.int ik), .val (.int co), .val (.ref b3), .val (.ref b27), .val (.int ((i1 &&& (2147483647 : Int32)) % co)), .unset, .unset, .unset, .unset, .unset, .unset, .unset] [])) tq → Steps p.tables e below (s₁.setTop (entryFrame m #[(.int ic), (.int i1), (.int i2), (.int ip), (.int ik)] maxLocals)) tq := by
    intro tq kt
    refine k2 tq ?_
    refine st3 _ ?_
    refine XS.dup X3.here hx rfl (hb hby at_11) rfl rfl ?_
    show Steps p.tables e below (T3.setTop (mkF m 12 #[.val (.int ic), .val (.int i1), .val (.int i2), .val (.int ip), .val (.int ik), .val (.int co), .unset, .unset, .unset, .unset, .unset, .unset, .unset, .unset, .unset, .unset] [(.ref b3), (.ref b3)])) _
    refine st8 _ ?_
    show Steps p.tables e below (T8.setTop (mkF m 14 #[.val (.int ic), .val (.int i1), .val (.int i2), .val (.int ip), .val (.int ik), .val (.int co), .unset, .unset, .unset, .unset, .unset, .unset, .unset, .unset, .unset, .unset] [(.ref xa8), (.ref b3), (.ref b3)])) _
    refine XS.dconst1 X8.here hx rfl (hb hby at_14) rfl ?_
    show Steps p.tables e below (T8.setTop (mkF m 15 #[.val (.int ic), .val (.int i1), .val (.int i2), .val (.int ip), .val (.int ik), .val (.int co), .unset, .unset, .unset, .unset, .unset, .unset, .unset, .unset, .unset, .unset] [(.double FP.dconst1), (.ref xa8), (.ref b3), (.ref b3)])) _
    refine XS.iload X8.here hx rfl (hb hby at_15) rfl ?_
    show Steps p.tables e below (T8.setTop (mkF m 17 #[.val (.int ic), .val (.int i1), .val (.int i2), .val (.int ip), .val (.int ik), .val (.int co), .unset, .unset, .unset, .unset, .unset, .unset, .unset, .unset, .unset, .unset] [(.int co), (.double FP.dconst1), (.ref xa8), (.ref b3), (.ref b3)])) _
    refine XS.dconst0 X8.here hx rfl (hb hby at_17) rfl ?_
    refine XS.lconst X8.here hx rfl (hb hby at_18) ?_
    show Steps p.tables e below (T8.setTop (mkF m 19 #[.val (.int ic), .val (.int i1), .val (.int i2), .val (.int ip), .val (.int ik), .val (.int co), .unset, .unset, .unset, .unset, .unset, .unset, .unset, .unset, .unset, .unset] [(.long (0 : Int64)), (.double FP.dconst0), (.int co), (.double FP.dconst1), (.ref xa8), (.ref b3), (.ref b3)])) _
    refine st18.trans ?_
    refine XS.astore X18r.here hx rfl (hb hby at_22) rfl rfl (l' := #[.val (.int ic), .val (.int i1), .val (.int i2), .val (.int ip), .val (.int ik), .val (.int co), .val (.ref b3), .unset, .unset, .unset, .unset, .unset, .unset, .unset, .unset, .unset]) rfl ?_
    refine st27 _ ?_
    show Steps p.tables e below (T27.setTop (mkF m 27 #[.val (.int ic), .val (.int i1), .val (.int i2), .val (.int ip), .val (.int ik), .val (.int co), .val (.ref b3), .unset, .unset, .unset, .unset, .unset, .unset, .unset, .unset, .unset] [(.ref b27)])) _
    refine XS.dup X27.here hx rfl (hb hby at_27) rfl rfl ?_
    show Steps p.tables e below (T27.setTop (mkF m 28 #[.val (.int ic), .val (.int i1), .val (.int i2), .val (.int ip), .val (.int ik), .val (.int co), .val (.ref b3), .unset, .unset, .unset, .unset, .unset, .unset, .unset, .unset, .unset] [(.ref b27), (.ref b27)])) _
    refine st38 _ ?_
    show Steps p.tables e below (T38.setTop (mkF m 30 #[.val (.int ic), .val (.int i1), .val (.int i2), .val (.int ip), .val (.int ik), .val (.int co), .val (.ref b3), .unset, .unset, .unset, .unset, .unset, .unset, .unset, .unset, .unset] [(.ref xa38), (.ref b27), (.ref b27)])) _
    refine XS.dconst1 X38.here hx rfl (hb hby at_30) rfl ?_
    refine XS.iload X38.here hx rfl (hb hby at_31) rfl ?_
    show Steps p.tables e below (T38.setTop (mkF m 33 #[.val (.int ic), .val (.int i1), .val (.int i2), .val (.int ip), .val (.int ik), .val (.int co), .val (.ref b3), .unset, .unset, .unset, .unset, .unset, .unset, .unset, .unset, .unset] [(.int co), (.double FP.dconst1), (.ref xa38), (.ref b27), (.ref b27)])) _
    refine XS.dconst0 X38.here hx rfl (hb hby at_33) rfl ?_
    refine XS.lconst X38.here hx rfl (hb hby at_34) ?_
    show Steps p.tables e below (T38.setTop (mkF m 35 #[.val (.int ic), .val (.int i1), .val (.int i2), .val (.int ip), .val (.int ik), .val (.int co), .val (.ref b3), .unset, .unset, .unset, .unset, .unset, .unset, .unset, .unset, .unset] [(.long (0 : Int64)), (.double FP.dconst0), (.int co), (.double FP.dconst1), (.ref xa38), (.ref b27), (.ref b27)])) _
    refine st54.trans ?_
    show Steps p.tables e below (T54.setTop (mkF m 38 #[.val (.int ic), .val (.int i1), .val (.int i2), .val (.int ip), .val (.int ik), .val (.int co), .val (.ref b3), .unset, .unset, .unset, .unset, .unset, .unset, .unset, .unset, .unset] [(.ref b27)])) _
    refine XS.astore X54r.here hx rfl (hb hby at_38) rfl rfl (l' := #[.val (.int ic), .val (.int i1), .val (.int i2), .val (.int ip), .val (.int ik), .val (.int co), .val (.ref b3), .val (.ref b27), .unset, .unset, .unset, .unset, .unset, .unset, .unset, .unset]) rfl ?_
    refine XS.iloadN X54r.here hx rfl (hb hby at_40) rfl ?_
    show Steps p.tables e below (T54.setTop (mkF m 41 #[.val (.int ic), .val (.int i1), .val (.int i2), .val (.int ip), .val (.int ik), .val (.int co), .val (.ref b3), .val (.ref b27), .unset, .unset, .unset, .unset, .unset, .unset, .unset, .unset] [(.int i1)])) _
    refine X54r.ldcInt hx hown54 (mvT hZ54 (hw _ (List.mem_of_getElem? (i := 93) rfl))) (g := (mkF m 41 #[.val (.int ic), .val (.int i1), .val (.int i2), .val (.int ip), .val (.int ik), .val (.int co), .val (.ref b3), .val (.ref b27), .unset, .unset, .unset, .unset, .unset, .unset, .unset, .unset] [(.int i1)])) rfl (hb hby at_41) _ ?_
    refine XS.iand X54r.here hx rfl (hb hby at_43) rfl ?_
    refine XS.iload X54r.here hx rfl (hb hby at_44) rfl ?_
    show Steps p.tables e below (T54.setTop (mkF m 46 #[.val (.int ic), .val (.int i1), .val (.int i2), .val (.int ip), .val (.int ik), .val (.int co), .val (.ref b3), .val (.ref b27), .unset, .unset, .unset, .unset, .unset, .unset, .unset, .unset] [(.int co), (.int (i1 &&& (2147483647 : Int32)))])) _
    refine iremM X54r hx rfl (hb hby at_46) rfl hc0 ?_
    refine XS.istore X54r.here hx rfl (hb hby at_47) rfl (l' := #[.val (.int ic), .val (.int i1), .val (.int i2), .val (.int ip), .val (.int ik), .val (.int co), .val (.ref b3), .val (.ref b27), .val (.int ((i1 &&& (2147483647 : Int32)) % co)), .unset, .unset, .unset, .unset, .unset, .unset, .unset]) rfl ?_
    exact kt
  obtain ⟨na, hna⟩ : ∃ z : Int32, z = ((i1 &&& (2147483647 : Int32)) % co) := ⟨_, rfl⟩
  have k70 : ∀ tq, Steps p.tables e below (T54.setTop (mkF m 49 #[.val (.int ic), .val (.int i1), .val (.int i2), .val (.int ip), .val (.int ik), .val (.int co), .val (.ref b3), .val (.ref b27), .val (.int na), .unset, .unset, .unset, .unset, .unset, .unset, .unset] [])) tq → Steps p.tables e below (s₁.setTop (entryFrame m #[(.int ic), (.int i1), (.int i2), (.int ip), (.int ik)] maxLocals)) tq := by
    intro tq kt
    subst hna
    exact k69 tq kt
  obtain ⟨na0, na1, na9⟩ := own_rem i1 hco hco9
  rw [← hna] at na0 na1 na9
  have k71 : ∀ tq, Steps p.tables e below (T54.setTop (mkF m 58 #[.val (.int ic), .val (.int i1), .val (.int i2), .val (.int ip), .val (.int ik), .val (.int co), .val (.ref b3), .val (.ref b27), .val (.int na), .val (.int ((i2 &&& (2147483647 : Int32)) % co)), .unset, .unset, .unset, .unset, .unset, .unset] [])) tq → Steps p.tables e below (s₁.setTop (entryFrame m #[(.int ic), (.int i1), (.int i2), (.int ip), (.int ik)] maxLocals)) tq := by
    intro tq kt
    refine k70 tq ?_
    refine XS.iloadN X54r.here hx rfl (hb hby at_49) rfl ?_
    show Steps p.tables e below (T54.setTop (mkF m 50 #[.val (.int ic), .val (.int i1), .val (.int i2), .val (.int ip), .val (.int ik), .val (.int co), .val (.ref b3), .val (.ref b27), .val (.int na), .unset, .unset, .unset, .unset, .unset, .unset, .unset] [(.int i2)])) _
    refine X54r.ldcInt hx hown54 (mvT hZ54 (hw _ (List.mem_of_getElem? (i := 93) rfl))) (g := (mkF m 50 #[.val (.int ic), .val (.int i1), .val (.int i2), .val (.int ip), .val (.int ik), .val (.int co), .val (.ref b3), .val (.ref b27), .val (.int na), .unset, .unset, .unset, .unset, .unset, .unset, .unset] [(.int i2)])) rfl (hb hby at_50) _ ?_
    refine XS.iand X54r.here hx rfl (hb hby at_52) rfl ?_
    show Steps p.tables e below (T54.setTop (mkF m 53 #[.val (.int ic), .val (.int i1), .val (.int i2), .val (.int ip), .val (.int ik), .val (.int co), .val (.ref b3), .val (.ref b27), .val (.int na), .unset, .unset, .unset, .unset, .unset, .unset, .unset] [(.int (i2 &&& (2147483647 : Int32)))])) _
    refine XS.iload X54r.here hx rfl (hb hby at_53) rfl ?_
    show Steps p.tables e below (T54.setTop (mkF m 55 #[.val (.int ic), .val (.int i1), .val (.int i2), .val (.int ip), .val (.int ik), .val (.int co), .val (.ref b3), .val (.ref b27), .val (.int na), .unset, .unset, .unset, .unset, .unset, .unset, .unset] [(.int co), (.int (i2 &&& (2147483647 : Int32)))])) _
    refine iremM X54r hx rfl (hb hby at_55) rfl hc0 ?_
    refine XS.istore X54r.here hx rfl (hb hby at_56) rfl (l' := #[.val (.int ic), .val (.int i1), .val (.int i2), .val (.int ip), .val (.int ik), .val (.int co), .val (.ref b3), .val (.ref b27), .val (.int na), .val (.int ((i2 &&& (2147483647 : Int32)) % co)), .unset, .unset, .unset, .unset, .unset, .unset]) rfl ?_
    exact kt
  obtain ⟨nb, hnb⟩ : ∃ z : Int32, z = ((i2 &&& (2147483647 : Int32)) % co) := ⟨_, rfl⟩
  have k72 : ∀ tq, Steps p.tables e below (T54.setTop (mkF m 58 #[.val (.int ic), .val (.int i1), .val (.int i2), .val (.int ip), .val (.int ik), .val (.int co), .val (.ref b3), .val (.ref b27), .val (.int na), .val (.int nb), .unset, .unset, .unset, .unset, .unset, .unset] [])) tq → Steps p.tables e below (s₁.setTop (entryFrame m #[(.int ic), (.int i1), (.int i2), (.int ip), (.int ik)] maxLocals)) tq := by
    intro tq kt
    subst hnb
    exact k71 tq kt
  obtain ⟨nb0, nb1, nb9⟩ := own_rem i2 hco hco9
  rw [← hnb] at nb0 nb1 nb9
  obtain ⟨T73, h73, X73, e73, E73, A73, D73, U73, st73⟩ := newO X54r hx hZ54 hown54 (hw _ (List.mem_of_getElem? (i := 94) rfl)) (hw _ (List.mem_of_getElem? (i := 95) rfl)) (hw _ (List.mem_of_getElem? (i := 96) rfl)) rfl (g := (mkF m 85 #[.val (.int ic), .val (.int i1), .val (.int i2), .val (.int ip), .val (.int ik), .val (.int co), .val (.ref b3), .val (.ref b27), .val (.int na), .val (.int nb), .val (.int (0 : Int32)), .val (.ref b3), .unset, .unset, .unset, .unset] [])) rfl (hb hby at_85) (by decide) (by decide)
  obtain ⟨b73, g73⟩ : ∃ z, z = T54.heap.size := ⟨_, rfl⟩
  rw [← g73] at A73 D73 U73 st73
  have ne_b3_b73 : b3 ≠ b73 := Nat.ne_of_lt (Nat.lt_of_lt_of_le f56.lt (Nat.le_of_eq g73.symm))
  have ne_xa8_b73 : xa8 ≠ b73 := Nat.ne_of_lt (Nat.lt_of_lt_of_le f57.lt (Nat.le_of_eq g73.symm))
  have ne_xb8_b73 : xb8 ≠ b73 := Nat.ne_of_lt (Nat.lt_of_lt_of_le f60.lt (Nat.le_of_eq g73.symm))
  have ne_b27_b73 : b27 ≠ b73 := Nat.ne_of_lt (Nat.lt_of_lt_of_le Eo54.lt (Nat.le_of_eq g73.symm))
  have ne_xa38_b73 : xa38 ≠ b73 := Nat.ne_of_lt (Nat.lt_of_lt_of_le f63.lt (Nat.le_of_eq g73.symm))
  have ne_xb38_b73 : xb38 ≠ b73 := Nat.ne_of_lt (Nat.lt_of_lt_of_le f66.lt (Nat.le_of_eq g73.symm))
  have g_b73 : n0 ≤ b73 := Nat.le_trans z67 (Nat.le_of_eq g73.symm)
  have sz_b73 : h0.size ≤ b73 := Nat.le_trans kp68.1 (Nat.le_of_eq g73.symm)
  have f74 := f56.ext E73
  have f75 := f57.ext E73
  have f76 := f58.ext E73
  have f77 := f59.ext E73
  have f78 := f60.ext E73
  have f79 := f61.ext E73
  have f80 := Eo54.ext E73
  have f81 := f63.ext E73
  have f82 := f64.ext E73
  have f83 := f65.ext E73
  have f84 := f66.ext E73
  have f85 := Fk54.ext E73
  have z86 := Nat.le_trans z67 E73.1
  have kp87 := kp68.ext E73
  have R88 := CHr.trans R55 (CHr.ext E73 R55.1)
  have hk89 := Nat.le_trans (Nat.le_refl _) E73.1
  have F_machine_b73 : Fld Z h73 b73 "com/example/makespun/makespun/pool/Slot" "machine" "Lcom/example/makespun/makespun/pool/Machine;" .null := D73 (Or.inr (hw _ (List.mem_of_getElem? (i := 109) rfl))) (ty := (.object "com/example/makespun/makespun/pool/Machine")) (by decide)
  have F_number_b73 : Fld Z h73 b73 "com/example/makespun/makespun/pool/Slot" "number" "I" (.int (0 : Int32)) := D73 (Or.inr (hw _ (List.mem_of_getElem? (i := 111) rfl))) (ty := .int) (by decide)
  obtain ⟨_, _, ⟨T90, L90, k90, n90⟩, -, X90, hT90, hG90, ⟨Lc90, hQ90, l90, y90, z90, C90⟩, st90⟩ := X73.specialBackS hx (y := (⟨"com/example/makespun/makespun/pool/Slot", "<init>", "(Lcom/example/makespun/makespun/pool/Machine;I)V"⟩ : MethodName)) rfl hown54 (mvT hZ54 (hw _ (List.mem_of_getElem? (i := 97) rfl))) (mvT hZ54 (hw _ (List.mem_of_getElem? (i := 98) rfl))) (mvT hZ54 (hw _ (List.mem_of_getElem? (i := 99) rfl))) (by decide) (backOfSH (W := 1) (rmSl l Z a0 hw [] b73 b3 na co h73 n0 z86 A73 F_machine_b73 F_number_b73 g_b73 f74 f79 na0 na1) hZ54 (hw _ (List.mem_of_getElem? (i := 99) rfl)) (hw _ (List.mem_of_getElem? (i := 96) rfl)) (by decide) (by decide) hEL R88.1) (g := (mkF m 93 #[.val (.int ic), .val (.int i1), .val (.int i2), .val (.int ip), .val (.int ik), .val (.int co), .val (.ref b3), .val (.ref b27), .val (.int na), .val (.int nb), .val (.int (0 : Int32)), .val (.ref b3), .unset, .unset, .unset, .unset] [(.int na), (.ref b3), (.ref b73), (.ref b73)])) rfl (by rw [hml]; rfl) (Steps.refl _) (a := b73) (argsL := [(.ref b3), (.int na)]) (rest := [(.ref b73)]) (lenOf pd_12 rfl) rfl (by show 2 * 0 + _ ≤ _; exact Nat.le_of_eq rfl) (hb hby at_93) (fun _ _ => ⟨rfl, e73, (by decide : 15 + 2 ≤ _), (by decide : 132 + 32 ≤ _)⟩)
  dsimp only [Pt.U, Pt.locs, Pt.cells, Pt.slots] at X90 l90 y90 z90 st90 hQ90 hT90 hG90 C90
  subst l90 y90 z90
  have hS90 := foldS (T := T73) hS54 (by rw [e73]; exact hk89) hT90 hG90
  have hZ90 : Z.Warmed39 T90.vm := State.Warmed39.trans (t := s.setVm T54.vm) hZ54 hT90.1
  have hown90 : T90.vm.findClass "com/example/makespun/makespun/pool/SlotEqualsPinLaw" = some m.cls := by rw [hT90.1.alike.findClass]; exact hown54
  have X90r : Stand p l e _ (s.setVm T90.vm) m _ below meth c T90 _ _ _ := X90
  obtain ⟨rfl, N90q, K90, Eo90, Fm90, Fn90⟩ := hQ90
  have N90 := Fr.app N54 N90q
  have R91 := CHr.trans R88 C90
  have f92 := f74.keep K90
  have f93 := f75.keep K90
  have f94 := f76.keep K90 (ninS ne_xa8_b73 nin0)
  have f95 := f77.keep K90 (ninS ne_xa8_b73 nin0)
  have f96 := f78.keep K90 (ninS ne_xb8_b73 nin0)
  have f97 := f79.keep K90 (ninS ne_b3_b73 nin0)
  have f98 := f80.keep K90
  have f99 := f81.keep K90
  have f100 := f82.keep K90 (ninS ne_xa38_b73 nin0)
  have f101 := f83.keep K90 (ninS ne_xa38_b73 nin0)
  have f102 := f84.keep K90 (ninS ne_xb38_b73 nin0)
  have f103 := f85.keep K90 (ninS ne_b27_b73 nin0)
  have f104 := A73.keep K90
  have z105 := Nat.le_trans z86 K90.1
  have kp106 := Keep.trans kp87 K90 (allS (Or.inr sz_b73) all0)
  obtain ⟨T107, h107, X107, e107, E107, A107, D107, U107, st107⟩ := newO X90r hx hZ90 hown90 (hw _ (List.mem_of_getElem? (i := 94) rfl)) (hw _ (List.mem_of_getElem? (i := 95) rfl)) (hw _ (List.mem_of_getElem? (i := 96) rfl)) rfl (g := (mkF m 98 #[.val (.int ic), .val (.int i1), .val (.int i2), .val (.int ip), .val (.int ik), .val (.int co), .val (.ref b3), .val (.ref b27), .val (.int na), .val (.int nb), .val (.int (0 : Int32)), .val (.ref b3), .val (.ref b73), .unset, .unset, .unset] [])) rfl (hb hby at_98) (by decide) (by decide)
  obtain ⟨b107, g107⟩ : ∃ z, z = T90.heap.size := ⟨_, rfl⟩
  rw [← g107] at A107 D107 U107 st107
  have ne_b3_b107 : b3 ≠ b107 := Nat.ne_of_lt (Nat.lt_of_lt_of_le f92.lt (Nat.le_of_eq g107.symm))
  have ne_xa8_b107 : xa8 ≠ b107 := Nat.ne_of_lt (Nat.lt_of_lt_of_le f93.lt (Nat.le_of_eq g107.symm))
  have ne_xb8_b107 : xb8 ≠ b107 := Nat.ne_of_lt (Nat.lt_of_lt_of_le f96.lt (Nat.le_of_eq g107.symm))
  have ne_b27_b107 : b27 ≠ b107 := Nat.ne_of_lt (Nat.lt_of_lt_of_le f98.lt (Nat.le_of_eq g107.symm))
  have ne_xa38_b107 : xa38 ≠ b107 := Nat.ne_of_lt (Nat.lt_of_lt_of_le f99.lt (Nat.le_of_eq g107.symm))
  have ne_xb38_b107 : xb38 ≠ b107 := Nat.ne_of_lt (Nat.lt_of_lt_of_le f102.lt (Nat.le_of_eq g107.symm))
  have ne_b73_b107 : b73 ≠ b107 := Nat.ne_of_lt (Nat.lt_of_lt_of_le Eo90.lt (Nat.le_of_eq g107.symm))
  have g_b107 : n0 ≤ b107 := Nat.le_trans z105 (Nat.le_of_eq g107.symm)
  have sz_b107 : h0.size ≤ b107 := Nat.le_trans kp106.1 (Nat.le_of_eq g107.symm)
  have f108 := f92.ext E107
  have f109 := f93.ext E107
  have f110 := f94.ext E107
  have f111 := f95.ext E107
  have f112 := f96.ext E107
  have f113 := f97.ext E107
  have f114 := f98.ext E107
  have f115 := f99.ext E107
  have f116 := f100.ext E107
  have f117 := f101.ext E107
  have f118 := f102.ext E107
  have f119 := f103.ext E107
  have f120 := Eo90.ext E107
  have f121 := Fm90.ext E107
  have f122 := Fn90.ext E107
  have z123 := Nat.le_trans z105 E107.1
  have kp124 := kp106.ext E107
  have R125 := CHr.trans R91 (CHr.ext E107 R91.1)
  have hk126 := Nat.le_trans (Nat.le_refl _) E107.1
  have F_machine_b107 : Fld Z h107 b107 "com/example/makespun/makespun/pool/Slot" "machine" "Lcom/example/makespun/makespun/pool/Machine;" .null := D107 (Or.inr (hw _ (List.mem_of_getElem? (i := 109) rfl))) (ty := (.object "com/example/makespun/makespun/pool/Machine")) (by decide)
  have F_number_b107 : Fld Z h107 b107 "com/example/makespun/makespun/pool/Slot" "number" "I" (.int (0 : Int32)) := D107 (Or.inr (hw _ (List.mem_of_getElem? (i := 111) rfl))) (ty := .int) (by decide)
  obtain ⟨_, _, ⟨T127, L127, k127, n127⟩, -, X127, hT127, hG127, ⟨Lc127, hQ127, l127, y127, z127, C127⟩, st127⟩ := X107.specialBackS hx (y := (⟨"com/example/makespun/makespun/pool/Slot", "<init>", "(Lcom/example/makespun/makespun/pool/Machine;I)V"⟩ : MethodName)) rfl hown90 (mvT hZ90 (hw _ (List.mem_of_getElem? (i := 97) rfl))) (mvT hZ90 (hw _ (List.mem_of_getElem? (i := 98) rfl))) (mvT hZ90 (hw _ (List.mem_of_getElem? (i := 99) rfl))) (by decide) (backOfSH (W := 1) (rmSl l Z a0 hw [] b107 b3 nb co h107 n0 z123 A107 F_machine_b107 F_number_b107 g_b107 f108 f113 nb0 nb1) hZ90 (hw _ (List.mem_of_getElem? (i := 99) rfl)) (hw _ (List.mem_of_getElem? (i := 96) rfl)) (by decide) (by decide) hEL R125.1) (g := (mkF m 106 #[.val (.int ic), .val (.int i1), .val (.int i2), .val (.int ip), .val (.int ik), .val (.int co), .val (.ref b3), .val (.ref b27), .val (.int na), .val (.int nb), .val (.int (0 : Int32)), .val (.ref b3), .val (.ref b73), .unset, .unset, .unset] [(.int nb), (.ref b3), (.ref b107), (.ref b107)])) rfl (by rw [hml]; rfl) (Steps.refl _) (a := b107) (argsL := [(.ref b3), (.int nb)]) (rest := [(.ref b107)]) (lenOf pd_12 rfl) rfl (by show 2 * 0 + _ ≤ _; exact Nat.le_of_eq rfl) (hb hby at_106) (fun _ _ => ⟨rfl, e107, (by decide : 18 + 2 ≤ _), (by decide : 166 + 32 ≤ _)⟩)
  dsimp only [Pt.U, Pt.locs, Pt.cells, Pt.slots] at X127 l127 y127 z127 st127 hQ127 hT127 hG127 C127
  subst l127 y127 z127
  have hS127 := foldS (T := T107) hS90 (by rw [e107]; exact hk126) hT127 hG127
  have hZ127 : Z.Warmed39 T127.vm := State.Warmed39.trans (t := s.setVm T90.vm) hZ90 hT127.1
  have hown127 : T127.vm.findClass "com/example/makespun/makespun/pool/SlotEqualsPinLaw" = some m.cls := by rw [hT127.1.alike.findClass]; exact hown90
  have X127r : Stand p l e _ (s.setVm T127.vm) m _ below meth c T127 _ _ _ := X127
  obtain ⟨rfl, N127q, K127, Eo127, Fm127, Fn127⟩ := hQ127
  have N127 := Fr.app N90 N127q
  have R128 := CHr.trans R125 C127
  have f129 := f108.keep K127
  have f130 := f109.keep K127
  have f131 := f110.keep K127 (ninS ne_xa8_b107 nin0)
  have f132 := f111.keep K127 (ninS ne_xa8_b107 nin0)
  have f133 := f112.keep K127 (ninS ne_xb8_b107 nin0)
  have f134 := f113.keep K127 (ninS ne_b3_b107 nin0)
  have f135 := f114.keep K127
  have f136 := f115.keep K127
  have f137 := f116.keep K127 (ninS ne_xa38_b107 nin0)
  have f138 := f117.keep K127 (ninS ne_xa38_b107 nin0)
  have f139 := f118.keep K127 (ninS ne_xb38_b107 nin0)
  have f140 := f119.keep K127 (ninS ne_b27_b107 nin0)
  have f141 := f120.keep K127
  have f142 := f121.keep K127 (ninS ne_b73_b107 nin0)
  have f143 := f122.keep K127 (ninS ne_b73_b107 nin0)
  have f144 := A107.keep K127
  have z145 := Nat.le_trans z123 K127.1
  have kp146 := Keep.trans kp124 K127 (allS (Or.inr sz_b107) all0)
  have k147 : ∀ tq, Steps p.tables e below (T127.setTop (mkF m 120 #[.val (.int ic), .val (.int i1), .val (.int i2), .val (.int ip), .val (.int ik), .val (.int co), .val (.ref b3), .val (.ref b27), .val (.int na), .val (.int nb), .val (.int (0 : Int32)), .val (.ref b3), .val (.ref b73), .val (.ref b107), .val (.int ((ik &&& (2147483647 : Int32)) % (5 : Int32))), .unset] [])) tq → Steps p.tables e below (s₁.setTop (entryFrame m #[(.int ic), (.int i1), (.int i2), (.int ip), (.int ik)] maxLocals)) tq := by
    intro tq kt
    refine k72 tq ?_
    refine XS.iloadN X54r.here hx rfl (hb hby at_58) rfl ?_
    refine XS.iconst X54r.here hx rfl (hb hby at_59) ?_
    show Steps p.tables e below (T54.setTop (mkF m 60 #[.val (.int ic), .val (.int i1), .val (.int i2), .val (.int ip), .val (.int ik), .val (.int co), .val (.ref b3), .val (.ref b27), .val (.int na), .val (.int nb), .unset, .unset, .unset, .unset, .unset, .unset] [(.int (1 : Int32)), (.int ip)])) _
    refine XS.iand X54r.here hx rfl (hb hby at_60) rfl ?_
    show Steps p.tables e below (T54.setTop (mkF m 61 #[.val (.int ic), .val (.int i1), .val (.int i2), .val (.int ip), .val (.int ik), .val (.int co), .val (.ref b3), .val (.ref b27), .val (.int na), .val (.int nb), .unset, .unset, .unset, .unset, .unset, .unset] [(.int (ip &&& (1 : Int32)))])) _
    refine XS.ifYes X54r.here hx rfl (pc0 := 61) (pc' := 68) rfl (hb hby at_61) rfl ((if0 _ _).trans (teq hot).1) (by decide) (by decide) ?_
    refine XS.iconst X54r.here hx rfl (hb hby at_68) ?_
    refine XS.istore X54r.here hx rfl (hb hby at_69) rfl (l' := #[.val (.int ic), .val (.int i1), .val (.int i2), .val (.int ip), .val (.int ik), .val (.int co), .val (.ref b3), .val (.ref b27), .val (.int na), .val (.int nb), .val (.int (0 : Int32)), .unset, .unset, .unset, .unset, .unset]) rfl ?_
    refine XS.iload X54r.here hx rfl (hb hby at_71) rfl ?_
    show Steps p.tables e below (T54.setTop (mkF m 73 #[.val (.int ic), .val (.int i1), .val (.int i2), .val (.int ip), .val (.int ik), .val (.int co), .val (.ref b3), .val (.ref b27), .val (.int na), .val (.int nb), .val (.int (0 : Int32)), .unset, .unset, .unset, .unset, .unset] [(.int (0 : Int32))])) _
    refine XS.ifYes X54r.here hx rfl (pc0 := 73) (pc' := 81) rfl (hb hby at_73) rfl ((if0 _ _).trans (teq (by decide : ((0 : Int32) = (0 : Int32)))).1) (by decide) (by decide) ?_
    refine XS.aload X54r.here hx rfl (hb hby at_81) rfl rfl ?_
    show Steps p.tables e below (T54.setTop (mkF m 83 #[.val (.int ic), .val (.int i1), .val (.int i2), .val (.int ip), .val (.int ik), .val (.int co), .val (.ref b3), .val (.ref b27), .val (.int na), .val (.int nb), .val (.int (0 : Int32)), .unset, .unset, .unset, .unset, .unset] [(.ref b3)])) _
    refine XS.astore X54r.here hx rfl (hb hby at_83) rfl rfl (l' := #[.val (.int ic), .val (.int i1), .val (.int i2), .val (.int ip), .val (.int ik), .val (.int co), .val (.ref b3), .val (.ref b27), .val (.int na), .val (.int nb), .val (.int (0 : Int32)), .val (.ref b3), .unset, .unset, .unset, .unset]) rfl ?_
    refine st73 _ ?_
    refine XS.dup X73.here hx rfl (hb hby at_88) rfl rfl ?_
    refine XS.aload X73.here hx rfl (hb hby at_89) rfl rfl ?_
    refine XS.iload X73.here hx rfl (hb hby at_91) rfl ?_
    show Steps p.tables e below (T73.setTop (mkF m 93 #[.val (.int ic), .val (.int i1), .val (.int i2), .val (.int ip), .val (.int ik), .val (.int co), .val (.ref b3), .val (.ref b27), .val (.int na), .val (.int nb), .val (.int (0 : Int32)), .val (.ref b3), .unset, .unset, .unset, .unset] [(.int na), (.ref b3), (.ref b73), (.ref b73)])) _
    refine st90.trans ?_
    show Steps p.tables e below (T90.setTop (mkF m 96 #[.val (.int ic), .val (.int i1), .val (.int i2), .val (.int ip), .val (.int ik), .val (.int co), .val (.ref b3), .val (.ref b27), .val (.int na), .val (.int nb), .val (.int (0 : Int32)), .val (.ref b3), .unset, .unset, .unset, .unset] [(.ref b73)])) _
    refine XS.astore X90r.here hx rfl (hb hby at_96) rfl rfl (l' := #[.val (.int ic), .val (.int i1), .val (.int i2), .val (.int ip), .val (.int ik), .val (.int co), .val (.ref b3), .val (.ref b27), .val (.int na), .val (.int nb), .val (.int (0 : Int32)), .val (.ref b3), .val (.ref b73), .unset, .unset, .unset]) rfl ?_
    refine st107 _ ?_
    refine XS.dup X107.here hx rfl (hb hby at_101) rfl rfl ?_
    refine XS.aload X107.here hx rfl (hb hby at_102) rfl rfl ?_
    refine XS.iload X107.here hx rfl (hb hby at_104) rfl ?_
    show Steps p.tables e below (T107.setTop (mkF m 106 #[.val (.int ic), .val (.int i1), .val (.int i2), .val (.int ip), .val (.int ik), .val (.int co), .val (.ref b3), .val (.ref b27), .val (.int na), .val (.int nb), .val (.int (0 : Int32)), .val (.ref b3), .val (.ref b73), .unset, .unset, .unset] [(.int nb), (.ref b3), (.ref b107), (.ref b107)])) _
    refine st127.trans ?_
    show Steps p.tables e below (T127.setTop (mkF m 109 #[.val (.int ic), .val (.int i1), .val (.int i2), .val (.int ip), .val (.int ik), .val (.int co), .val (.ref b3), .val (.ref b27), .val (.int na), .val (.int nb), .val (.int (0 : Int32)), .val (.ref b3), .val (.ref b73), .unset, .unset, .unset] [(.ref b107)])) _
    refine XS.astore X127r.here hx rfl (hb hby at_109) rfl rfl (l' := #[.val (.int ic), .val (.int i1), .val (.int i2), .val (.int ip), .val (.int ik), .val (.int co), .val (.ref b3), .val (.ref b27), .val (.int na), .val (.int nb), .val (.int (0 : Int32)), .val (.ref b3), .val (.ref b73), .val (.ref b107), .unset, .unset]) rfl ?_
    refine XS.iload X127r.here hx rfl (hb hby at_111) rfl ?_
    show Steps p.tables e below (T127.setTop (mkF m 113 #[.val (.int ic), .val (.int i1), .val (.int i2), .val (.int ip), .val (.int ik), .val (.int co), .val (.ref b3), .val (.ref b27), .val (.int na), .val (.int nb), .val (.int (0 : Int32)), .val (.ref b3), .val (.ref b73), .val (.ref b107), .unset, .unset] [(.int ik)])) _
    refine X127r.ldcInt hx hown127 (mvT hZ127 (hw _ (List.mem_of_getElem? (i := 93) rfl))) (g := (mkF m 113 #[.val (.int ic), .val (.int i1), .val (.int i2), .val (.int ip), .val (.int ik), .val (.int co), .val (.ref b3), .val (.ref b27), .val (.int na), .val (.int nb), .val (.int (0 : Int32)), .val (.ref b3), .val (.ref b73), .val (.ref b107), .unset, .unset] [(.int ik)])) rfl (hb hby at_113) _ ?_
    refine XS.iand X127r.here hx rfl (hb hby at_115) rfl ?_
    refine XS.iconst X127r.here hx rfl (hb hby at_116) ?_
    show Steps p.tables e below (T127.setTop (mkF m 117 #[.val (.int ic), .val (.int i1), .val (.int i2), .val (.int ip), .val (.int ik), .val (.int co), .val (.ref b3), .val (.ref b27), .val (.int na), .val (.int nb), .val (.int (0 : Int32)), .val (.ref b3), .val (.ref b73), .val (.ref b107), .unset, .unset] [(.int (5 : Int32)), (.int (ik &&& (2147483647 : Int32)))])) _
    refine iremM X127r hx rfl (hb hby at_117) rfl (by decide) ?_
    refine XS.istore X127r.here hx rfl (hb hby at_118) rfl (l' := #[.val (.int ic), .val (.int i1), .val (.int i2), .val (.int ip), .val (.int ik), .val (.int co), .val (.ref b3), .val (.ref b27), .val (.int na), .val (.int nb), .val (.int (0 : Int32)), .val (.ref b3), .val (.ref b73), .val (.ref b107), .val (.int ((ik &&& (2147483647 : Int32)) % (5 : Int32))), .unset]) rfl ?_
    exact kt
  obtain ⟨kk, hkk⟩ : ∃ z : Int32, z = ((ik &&& (2147483647 : Int32)) % (5 : Int32)) := ⟨_, rfl⟩
  have k148 : ∀ tq, Steps p.tables e below (T127.setTop (mkF m 120 #[.val (.int ic), .val (.int i1), .val (.int i2), .val (.int ip), .val (.int ik), .val (.int co), .val (.ref b3), .val (.ref b27), .val (.int na), .val (.int nb), .val (.int (0 : Int32)), .val (.ref b3), .val (.ref b73), .val (.ref b107), .val (.int kk), .unset] [])) tq → Steps p.tables e below (s₁.setTop (entryFrame m #[(.int ic), (.int i1), (.int i2), (.int ip), (.int ik)] maxLocals)) tq := by
    intro tq kt
    subst hkk
    exact k147 tq kt
  have haa : own_se b3 b3 na na = (1 : Int32) := by unfold own_se; rw [if_pos rfl, if_pos rfl]
  have k149 : ∀ tq, Steps p.tables e below (T127.setTop (mkF m 122 #[.val (.int ic), .val (.int i1), .val (.int i2), .val (.int ip), .val (.int ik), .val (.int co), .val (.ref b3), .val (.ref b27), .val (.int na), .val (.int nb), .val (.int (0 : Int32)), .val (.ref b3), .val (.ref b73), .val (.ref b107), .val (.int kk), .unset] [(.int kk)])) tq → Steps p.tables e below (s₁.setTop (entryFrame m #[(.int ic), (.int i1), (.int i2), (.int ip), (.int ik)] maxLocals)) tq := by
    intro tq kt
    refine k148 tq ?_
    refine XS.iload X127r.here hx rfl (hb hby at_120) rfl ?_
    exact kt
  by_cases hc150 : kk = (0 : Int32)
  · have k151 : ∀ tq, Steps p.tables e below (T127.setTop (mkF m 134 #[.val (.int ic), .val (.int i1), .val (.int i2), .val (.int ip), .val (.int ik), .val (.int co), .val (.ref b3), .val (.ref b27), .val (.int na), .val (.int nb), .val (.int (0 : Int32)), .val (.ref b3), .val (.ref b73), .val (.ref b107), .val (.int kk), .unset] [(.int nb), (.int na)])) tq → Steps p.tables e below (s₁.setTop (entryFrame m #[(.int ic), (.int i1), (.int i2), (.int ip), (.int ik)] maxLocals)) tq := by
      intro tq kt
      refine k149 tq ?_
      show Steps p.tables e below (T127.setTop (mkF m 122 #[.val (.int ic), .val (.int i1), .val (.int i2), .val (.int ip), .val (.int ik), .val (.int co), .val (.ref b3), .val (.ref b27), .val (.int na), .val (.int nb), .val (.int (0 : Int32)), .val (.ref b3), .val (.ref b73), .val (.ref b107), .val (.int kk), .unset] [(.int kk)])) _
      refine XS.ifNo X127r.here hx rfl (hb hby at_122) rfl ((if0 _ _).trans (teq hc150).2) ?_
      refine XS.iload X127r.here hx rfl (hb hby at_125) rfl ?_
      show Steps p.tables e below (T127.setTop (mkF m 127 #[.val (.int ic), .val (.int i1), .val (.int i2), .val (.int ip), .val (.int ik), .val (.int co), .val (.ref b3), .val (.ref b27), .val (.int na), .val (.int nb), .val (.int (0 : Int32)), .val (.ref b3), .val (.ref b73), .val (.ref b107), .val (.int kk), .unset] [(.int (0 : Int32))])) _
      refine XS.ifNo X127r.here hx rfl (hb hby at_127) rfl ((if0 _ _).trans (teq (by decide : ((0 : Int32) = (0 : Int32)))).2) ?_
      refine XS.iload X127r.here hx rfl (hb hby at_130) rfl ?_
      show Steps p.tables e below (T127.setTop (mkF m 132 #[.val (.int ic), .val (.int i1), .val (.int i2), .val (.int ip), .val (.int ik), .val (.int co), .val (.ref b3), .val (.ref b27), .val (.int na), .val (.int nb), .val (.int (0 : Int32)), .val (.ref b3), .val (.ref b73), .val (.ref b107), .val (.int kk), .unset] [(.int na)])) _
      refine XS.iload X127r.here hx rfl (hb hby at_132) rfl ?_
      exact kt
    by_cases hc152 : na = nb
    · have hab : own_se b3 b3 na nb = (1 : Int32) := by unfold own_se; rw [if_pos rfl, if_pos hc152]
      have hba : own_se b3 b3 nb na = (1 : Int32) := by unfold own_se; rw [if_pos rfl, if_pos hc152.symm]
      obtain ⟨cq153, kq153, q153a, q153b, q153c⟩ := isOf hZ127 rfl f141
      obtain ⟨_, _, ⟨T153, L153, k153, n153⟩, -, X153, ⟨Lc153, hQ153, l153, y153, z153⟩, st153⟩ := X127r.virtualBack hx (y := (⟨"com/example/makespun/makespun/pool/Slot", "equals", "(Ljava/lang/Object;)Z"⟩ : MethodName)) (z := (⟨"com/example/makespun/makespun/pool/Slot", "equals", "(Ljava/lang/Object;)Z"⟩ : MethodName)) hown127 (mvT hZ127 (hw _ (List.mem_of_getElem? (i := 112) rfl))) (mvT hZ127 (hw _ (List.mem_of_getElem? (i := 113) rfl))) (notFace_of_selects (args := #[]) (mvT hZ127 (hw _ (List.mem_of_getElem? (i := 115) rfl)))) (mvT hZ127 (hw _ (List.mem_of_getElem? (i := 115) rfl))) (mvT hZ127 (hw _ (List.mem_of_getElem? (i := 114) rfl))) (by decide) (backOf (W := 0) (rmE l Z a0 hw [] b73 b107 b3 b3 na nb T127.heap n0 z145 Eo127 f142 f143 Fm127 Fn127) hZ127 (hw _ (List.mem_of_getElem? (i := 116) rfl)) (hw _ (List.mem_of_getElem? (i := 96) rfl)) (by decide) (by decide)) q153a q153c (g := (mkF m 148 #[.val (.int ic), .val (.int i1), .val (.int i2), .val (.int ip), .val (.int ik), .val (.int co), .val (.ref b3), .val (.ref b27), .val (.int na), .val (.int nb), .val (.int (0 : Int32)), .val (.ref b3), .val (.ref b73), .val (.ref b107), .val (.int kk), .val (.int (1 : Int32))] [(.ref b107), (.ref b73)])) rfl (by rw [hml]; rfl) (Steps.refl _) (argsL := [(.ref b107)]) (rest := []) (lenOf pd_14 rfl) rfl (by show 2 * 0 + _ ≤ _; exact Nat.le_of_eq rfl) (hb hby at_148) (fun _ _ => ⟨rfl, rfl, (by decide : 20 + 0 ≤ _), (by decide : 198 + 0 ≤ _)⟩)
      dsimp only [Pt.U, Pt.locs, Pt.cells, Pt.slots] at X153 l153 y153 z153 st153 hQ153
      subst l153 y153 z153
      obtain ⟨rfl, N153q, e153⟩ := hQ153
      have N153 := Fr.app N127 N153q
      obtain ⟨cq154, kq154, q154a, q154b, q154c⟩ := isOf hZ127 e153 Eo127
      obtain ⟨_, _, ⟨T154, L154, k154, n154⟩, -, X154, ⟨Lc154, hQ154, l154, y154, z154⟩, st154⟩ := X153.virtualBack hx (y := (⟨"com/example/makespun/makespun/pool/Slot", "equals", "(Ljava/lang/Object;)Z"⟩ : MethodName)) (z := (⟨"com/example/makespun/makespun/pool/Slot", "equals", "(Ljava/lang/Object;)Z"⟩ : MethodName)) hown127 (mvT hZ127 (hw _ (List.mem_of_getElem? (i := 112) rfl))) (mvT hZ127 (hw _ (List.mem_of_getElem? (i := 113) rfl))) (notFace_of_selects (args := #[]) (mvT hZ127 (hw _ (List.mem_of_getElem? (i := 115) rfl)))) (mvT hZ127 (hw _ (List.mem_of_getElem? (i := 115) rfl))) (mvT hZ127 (hw _ (List.mem_of_getElem? (i := 114) rfl))) (by decide) (backOf (W := 0) (rmE l Z a0 hw [] b107 b73 b3 b3 nb na T127.heap n0 z145 f141 Fm127 Fn127 f142 f143) hZ127 (hw _ (List.mem_of_getElem? (i := 116) rfl)) (hw _ (List.mem_of_getElem? (i := 96) rfl)) (by decide) (by decide)) q154a q154c (g := (mkF m 160 #[.val (.int ic), .val (.int i1), .val (.int i2), .val (.int ip), .val (.int ik), .val (.int co), .val (.ref b3), .val (.ref b27), .val (.int na), .val (.int nb), .val (.int (0 : Int32)), .val (.ref b3), .val (.ref b73), .val (.ref b107), .val (.int kk), .val (.int (1 : Int32))] [(.ref b73), (.ref b107)])) rfl (by rw [hml]; rfl) (Steps.refl _) (argsL := [(.ref b73)]) (rest := []) (lenOf pd_14 rfl) rfl (by show 2 * 0 + _ ≤ _; exact Nat.le_of_eq rfl) (hb hby at_160) (fun _ _ => ⟨rfl, e153, (by decide : 20 + 0 ≤ _), (by decide : 198 + 0 ≤ _)⟩)
      dsimp only [Pt.U, Pt.locs, Pt.cells, Pt.slots] at X154 l154 y154 z154 st154 hQ154
      subst l154 y154 z154
      obtain ⟨rfl, N154q, e154⟩ := hQ154
      have N154 := Fr.app N153 N154q
      obtain ⟨fs, hr, hrun, hended, hEnd⟩ := X154.leaveW (s := s) hS127 (by rw [e154]; exact (Nat.le_refl _)) (v := some (.int (1 : Int32))) (fun h => by rw [Bd.returns] at h; cases h)
      refine ⟨_, _, k151 _ ?_, hrun, hended, _, _, rfl, ?_, ?_, hEnd.1, hEnd.2.1, hEnd.2.2.1, hEnd.2.2.2.mono (by decide) (by decide)⟩
      · show Steps p.tables e below (T127.setTop (mkF m 134 #[.val (.int ic), .val (.int i1), .val (.int i2), .val (.int ip), .val (.int ik), .val (.int co), .val (.ref b3), .val (.ref b27), .val (.int na), .val (.int nb), .val (.int (0 : Int32)), .val (.ref b3), .val (.ref b73), .val (.ref b107), .val (.int kk), .unset] [(.int nb), (.int na)])) _
        refine XS.icmpNo X127r.here hx rfl (hb hby at_134) rfl (teq hc152).2 ?_
        refine XS.iconst X127r.here hx rfl (hb hby at_137) ?_
        refine XS.goto X127r.here hx rfl (pc0 := 138) (pc' := 142) rfl (hb hby at_138) (by decide) (by decide) ?_
        refine XS.istore X127r.here hx rfl (hb hby at_142) rfl (l' := #[.val (.int ic), .val (.int i1), .val (.int i2), .val (.int ip), .val (.int ik), .val (.int co), .val (.ref b3), .val (.ref b27), .val (.int na), .val (.int nb), .val (.int (0 : Int32)), .val (.ref b3), .val (.ref b73), .val (.ref b107), .val (.int kk), .val (.int (1 : Int32))]) rfl ?_
        refine XS.aload X127r.here hx rfl (hb hby at_144) rfl rfl ?_
        show Steps p.tables e below (T127.setTop (mkF m 146 #[.val (.int ic), .val (.int i1), .val (.int i2), .val (.int ip), .val (.int ik), .val (.int co), .val (.ref b3), .val (.ref b27), .val (.int na), .val (.int nb), .val (.int (0 : Int32)), .val (.ref b3), .val (.ref b73), .val (.ref b107), .val (.int kk), .val (.int (1 : Int32))] [(.ref b73)])) _
        refine XS.aload X127r.here hx rfl (hb hby at_146) rfl rfl ?_
        refine st153.trans ?_
        refine XS.iload X153.here hx rfl (hb hby at_151) rfl ?_
        show Steps p.tables e below (T153.setTop (mkF m 153 #[.val (.int ic), .val (.int i1), .val (.int i2), .val (.int ip), .val (.int ik), .val (.int co), .val (.ref b3), .val (.ref b27), .val (.int na), .val (.int nb), .val (.int (0 : Int32)), .val (.ref b3), .val (.ref b73), .val (.ref b107), .val (.int kk), .val (.int (1 : Int32))] [(.int (1 : Int32)), (.int (own_se b3 b3 na nb))])) _
        refine XS.icmpNo X153.here hx rfl (hb hby at_153) rfl (teq hab).2 ?_
        refine XS.aload X153.here hx rfl (hb hby at_156) rfl rfl ?_
        refine XS.aload X153.here hx rfl (hb hby at_158) rfl rfl ?_
        show Steps p.tables e below (T153.setTop (mkF m 160 #[.val (.int ic), .val (.int i1), .val (.int i2), .val (.int ip), .val (.int ik), .val (.int co), .val (.ref b3), .val (.ref b27), .val (.int na), .val (.int nb), .val (.int (0 : Int32)), .val (.ref b3), .val (.ref b73), .val (.ref b107), .val (.int kk), .val (.int (1 : Int32))] [(.ref b73), (.ref b107)])) _
        refine st154.trans ?_
        refine XS.iload X154.here hx rfl (hb hby at_163) rfl ?_
        show Steps p.tables e below (T154.setTop (mkF m 165 #[.val (.int ic), .val (.int i1), .val (.int i2), .val (.int ip), .val (.int ik), .val (.int co), .val (.ref b3), .val (.ref b27), .val (.int na), .val (.int nb), .val (.int (0 : Int32)), .val (.ref b3), .val (.ref b73), .val (.ref b107), .val (.int kk), .val (.int (1 : Int32))] [(.int (1 : Int32)), (.int (own_se b3 b3 nb na))])) _
        refine XS.icmpNo X154.here hx rfl (hb hby at_165) rfl (teq hba).2 ?_
        refine XS.iconst X154.here hx rfl (hb hby at_168) ?_
        refine XS.goto X154.here hx rfl (pc0 := 169) (pc' := 173) rfl (hb hby at_169) (by decide) (by decide) ?_
        show Steps p.tables e below (T154.setTop (mkF m 173 #[.val (.int ic), .val (.int i1), .val (.int i2), .val (.int ip), .val (.int ik), .val (.int co), .val (.ref b3), .val (.ref b27), .val (.int na), .val (.int nb), .val (.int (0 : Int32)), .val (.ref b3), .val (.ref b73), .val (.ref b107), .val (.int kk), .val (.int (1 : Int32))] [(.int (1 : Int32))])) _
        exact retN X154 hx (t := .boolean) Bd.returns (by simp) (hb hby at_173) hr
      · show own_Q0 Z ic i1 i2 ip ik h0 n0 _ T154.heap _
        rw [e154]
        exact ⟨rfl, N154⟩
      · show CHr Z own_EL s.vm s.heap T154.vm T154.heap
        rw [hh, e154]
        exact CHr.trans R128 (CHv.at X154 hZ127 hEL R128.1)
    · have hab : own_se b3 b3 na nb = (0 : Int32) := by unfold own_se; rw [if_pos rfl, if_neg hc152]
      have hba : own_se b3 b3 nb na = (0 : Int32) := by unfold own_se; rw [if_pos rfl, if_neg (Ne.symm hc152)]
      obtain ⟨cq155, kq155, q155a, q155b, q155c⟩ := isOf hZ127 rfl f141
      obtain ⟨_, _, ⟨T155, L155, k155, n155⟩, -, X155, ⟨Lc155, hQ155, l155, y155, z155⟩, st155⟩ := X127r.virtualBack hx (y := (⟨"com/example/makespun/makespun/pool/Slot", "equals", "(Ljava/lang/Object;)Z"⟩ : MethodName)) (z := (⟨"com/example/makespun/makespun/pool/Slot", "equals", "(Ljava/lang/Object;)Z"⟩ : MethodName)) hown127 (mvT hZ127 (hw _ (List.mem_of_getElem? (i := 112) rfl))) (mvT hZ127 (hw _ (List.mem_of_getElem? (i := 113) rfl))) (notFace_of_selects (args := #[]) (mvT hZ127 (hw _ (List.mem_of_getElem? (i := 115) rfl)))) (mvT hZ127 (hw _ (List.mem_of_getElem? (i := 115) rfl))) (mvT hZ127 (hw _ (List.mem_of_getElem? (i := 114) rfl))) (by decide) (backOf (W := 0) (rmE l Z a0 hw [] b73 b107 b3 b3 na nb T127.heap n0 z145 Eo127 f142 f143 Fm127 Fn127) hZ127 (hw _ (List.mem_of_getElem? (i := 116) rfl)) (hw _ (List.mem_of_getElem? (i := 96) rfl)) (by decide) (by decide)) q155a q155c (g := (mkF m 148 #[.val (.int ic), .val (.int i1), .val (.int i2), .val (.int ip), .val (.int ik), .val (.int co), .val (.ref b3), .val (.ref b27), .val (.int na), .val (.int nb), .val (.int (0 : Int32)), .val (.ref b3), .val (.ref b73), .val (.ref b107), .val (.int kk), .val (.int (0 : Int32))] [(.ref b107), (.ref b73)])) rfl (by rw [hml]; rfl) (Steps.refl _) (argsL := [(.ref b107)]) (rest := []) (lenOf pd_14 rfl) rfl (by show 2 * 0 + _ ≤ _; exact Nat.le_of_eq rfl) (hb hby at_148) (fun _ _ => ⟨rfl, rfl, (by decide : 20 + 0 ≤ _), (by decide : 198 + 0 ≤ _)⟩)
      dsimp only [Pt.U, Pt.locs, Pt.cells, Pt.slots] at X155 l155 y155 z155 st155 hQ155
      subst l155 y155 z155
      obtain ⟨rfl, N155q, e155⟩ := hQ155
      have N155 := Fr.app N127 N155q
      obtain ⟨cq156, kq156, q156a, q156b, q156c⟩ := isOf hZ127 e155 Eo127
      obtain ⟨_, _, ⟨T156, L156, k156, n156⟩, -, X156, ⟨Lc156, hQ156, l156, y156, z156⟩, st156⟩ := X155.virtualBack hx (y := (⟨"com/example/makespun/makespun/pool/Slot", "equals", "(Ljava/lang/Object;)Z"⟩ : MethodName)) (z := (⟨"com/example/makespun/makespun/pool/Slot", "equals", "(Ljava/lang/Object;)Z"⟩ : MethodName)) hown127 (mvT hZ127 (hw _ (List.mem_of_getElem? (i := 112) rfl))) (mvT hZ127 (hw _ (List.mem_of_getElem? (i := 113) rfl))) (notFace_of_selects (args := #[]) (mvT hZ127 (hw _ (List.mem_of_getElem? (i := 115) rfl)))) (mvT hZ127 (hw _ (List.mem_of_getElem? (i := 115) rfl))) (mvT hZ127 (hw _ (List.mem_of_getElem? (i := 114) rfl))) (by decide) (backOf (W := 0) (rmE l Z a0 hw [] b107 b73 b3 b3 nb na T127.heap n0 z145 f141 Fm127 Fn127 f142 f143) hZ127 (hw _ (List.mem_of_getElem? (i := 116) rfl)) (hw _ (List.mem_of_getElem? (i := 96) rfl)) (by decide) (by decide)) q156a q156c (g := (mkF m 160 #[.val (.int ic), .val (.int i1), .val (.int i2), .val (.int ip), .val (.int ik), .val (.int co), .val (.ref b3), .val (.ref b27), .val (.int na), .val (.int nb), .val (.int (0 : Int32)), .val (.ref b3), .val (.ref b73), .val (.ref b107), .val (.int kk), .val (.int (0 : Int32))] [(.ref b73), (.ref b107)])) rfl (by rw [hml]; rfl) (Steps.refl _) (argsL := [(.ref b73)]) (rest := []) (lenOf pd_14 rfl) rfl (by show 2 * 0 + _ ≤ _; exact Nat.le_of_eq rfl) (hb hby at_160) (fun _ _ => ⟨rfl, e155, (by decide : 20 + 0 ≤ _), (by decide : 198 + 0 ≤ _)⟩)
      dsimp only [Pt.U, Pt.locs, Pt.cells, Pt.slots] at X156 l156 y156 z156 st156 hQ156
      subst l156 y156 z156
      obtain ⟨rfl, N156q, e156⟩ := hQ156
      have N156 := Fr.app N155 N156q
      obtain ⟨fs, hr, hrun, hended, hEnd⟩ := X156.leaveW (s := s) hS127 (by rw [e156]; exact (Nat.le_refl _)) (v := some (.int (1 : Int32))) (fun h => by rw [Bd.returns] at h; cases h)
      refine ⟨_, _, k151 _ ?_, hrun, hended, _, _, rfl, ?_, ?_, hEnd.1, hEnd.2.1, hEnd.2.2.1, hEnd.2.2.2.mono (by decide) (by decide)⟩
      · show Steps p.tables e below (T127.setTop (mkF m 134 #[.val (.int ic), .val (.int i1), .val (.int i2), .val (.int ip), .val (.int ik), .val (.int co), .val (.ref b3), .val (.ref b27), .val (.int na), .val (.int nb), .val (.int (0 : Int32)), .val (.ref b3), .val (.ref b73), .val (.ref b107), .val (.int kk), .unset] [(.int nb), (.int na)])) _
        refine XS.icmpYes X127r.here hx rfl (pc0 := 134) (pc' := 141) rfl (hb hby at_134) rfl (feq hc152).2 (by decide) (by decide) ?_
        refine XS.iconst X127r.here hx rfl (hb hby at_141) ?_
        show Steps p.tables e below (T127.setTop (mkF m 142 #[.val (.int ic), .val (.int i1), .val (.int i2), .val (.int ip), .val (.int ik), .val (.int co), .val (.ref b3), .val (.ref b27), .val (.int na), .val (.int nb), .val (.int (0 : Int32)), .val (.ref b3), .val (.ref b73), .val (.ref b107), .val (.int kk), .unset] [(.int (0 : Int32))])) _
        refine XS.istore X127r.here hx rfl (hb hby at_142) rfl (l' := #[.val (.int ic), .val (.int i1), .val (.int i2), .val (.int ip), .val (.int ik), .val (.int co), .val (.ref b3), .val (.ref b27), .val (.int na), .val (.int nb), .val (.int (0 : Int32)), .val (.ref b3), .val (.ref b73), .val (.ref b107), .val (.int kk), .val (.int (0 : Int32))]) rfl ?_
        refine XS.aload X127r.here hx rfl (hb hby at_144) rfl rfl ?_
        refine XS.aload X127r.here hx rfl (hb hby at_146) rfl rfl ?_
        refine st155.trans ?_
        refine XS.iload X155.here hx rfl (hb hby at_151) rfl ?_
        show Steps p.tables e below (T155.setTop (mkF m 153 #[.val (.int ic), .val (.int i1), .val (.int i2), .val (.int ip), .val (.int ik), .val (.int co), .val (.ref b3), .val (.ref b27), .val (.int na), .val (.int nb), .val (.int (0 : Int32)), .val (.ref b3), .val (.ref b73), .val (.ref b107), .val (.int kk), .val (.int (0 : Int32))] [(.int (0 : Int32)), (.int (own_se b3 b3 na nb))])) _
        refine XS.icmpNo X155.here hx rfl (hb hby at_153) rfl (teq hab).2 ?_
        show Steps p.tables e below (T155.setTop (mkF m 156 #[.val (.int ic), .val (.int i1), .val (.int i2), .val (.int ip), .val (.int ik), .val (.int co), .val (.ref b3), .val (.ref b27), .val (.int na), .val (.int nb), .val (.int (0 : Int32)), .val (.ref b3), .val (.ref b73), .val (.ref b107), .val (.int kk), .val (.int (0 : Int32))] [])) _
        refine XS.aload X155.here hx rfl (hb hby at_156) rfl rfl ?_
        refine XS.aload X155.here hx rfl (hb hby at_158) rfl rfl ?_
        refine st156.trans ?_
        refine XS.iload X156.here hx rfl (hb hby at_163) rfl ?_
        show Steps p.tables e below (T156.setTop (mkF m 165 #[.val (.int ic), .val (.int i1), .val (.int i2), .val (.int ip), .val (.int ik), .val (.int co), .val (.ref b3), .val (.ref b27), .val (.int na), .val (.int nb), .val (.int (0 : Int32)), .val (.ref b3), .val (.ref b73), .val (.ref b107), .val (.int kk), .val (.int (0 : Int32))] [(.int (0 : Int32)), (.int (own_se b3 b3 nb na))])) _
        refine XS.icmpNo X156.here hx rfl (hb hby at_165) rfl (teq hba).2 ?_
        refine XS.iconst X156.here hx rfl (hb hby at_168) ?_
        show Steps p.tables e below (T156.setTop (mkF m 169 #[.val (.int ic), .val (.int i1), .val (.int i2), .val (.int ip), .val (.int ik), .val (.int co), .val (.ref b3), .val (.ref b27), .val (.int na), .val (.int nb), .val (.int (0 : Int32)), .val (.ref b3), .val (.ref b73), .val (.ref b107), .val (.int kk), .val (.int (0 : Int32))] [(.int (1 : Int32))])) _
        refine XS.goto X156.here hx rfl (pc0 := 169) (pc' := 173) rfl (hb hby at_169) (by decide) (by decide) ?_
        show Steps p.tables e below (T156.setTop (mkF m 173 #[.val (.int ic), .val (.int i1), .val (.int i2), .val (.int ip), .val (.int ik), .val (.int co), .val (.ref b3), .val (.ref b27), .val (.int na), .val (.int nb), .val (.int (0 : Int32)), .val (.ref b3), .val (.ref b73), .val (.ref b107), .val (.int kk), .val (.int (0 : Int32))] [(.int (1 : Int32))])) _
        exact retN X156 hx (t := .boolean) Bd.returns (by simp) (hb hby at_173) hr
      · show own_Q0 Z ic i1 i2 ip ik h0 n0 _ T156.heap _
        rw [e156]
        exact ⟨rfl, N156⟩
      · show CHr Z own_EL s.vm s.heap T156.vm T156.heap
        rw [hh, e156]
        exact CHr.trans R128 (CHv.at X156 hZ127 hEL R128.1)
  · have k157 : ∀ tq, Steps p.tables e below (T127.setTop (mkF m 177 #[.val (.int ic), .val (.int i1), .val (.int i2), .val (.int ip), .val (.int ik), .val (.int co), .val (.ref b3), .val (.ref b27), .val (.int na), .val (.int nb), .val (.int (0 : Int32)), .val (.ref b3), .val (.ref b73), .val (.ref b107), .val (.int kk), .unset] [(.int (1 : Int32)), (.int kk)])) tq → Steps p.tables e below (s₁.setTop (entryFrame m #[(.int ic), (.int i1), (.int i2), (.int ip), (.int ik)] maxLocals)) tq := by
      intro tq kt
      refine k149 tq ?_
      show Steps p.tables e below (T127.setTop (mkF m 122 #[.val (.int ic), .val (.int i1), .val (.int i2), .val (.int ip), .val (.int ik), .val (.int co), .val (.ref b3), .val (.ref b27), .val (.int na), .val (.int nb), .val (.int (0 : Int32)), .val (.ref b3), .val (.ref b73), .val (.ref b107), .val (.int kk), .unset] [(.int kk)])) _
      refine XS.ifYes X127r.here hx rfl (pc0 := 122) (pc' := 174) rfl (hb hby at_122) rfl ((if0 _ _).trans (feq hc150).2) (by decide) (by decide) ?_
      refine XS.iload X127r.here hx rfl (hb hby at_174) rfl ?_
      refine XS.iconst X127r.here hx rfl (hb hby at_176) ?_
      exact kt
    by_cases hc158 : kk = (1 : Int32)
    · obtain ⟨cq159, kq159, q159a, q159b, q159c⟩ := isOf hZ127 rfl f141
      obtain ⟨_, _, ⟨T159, L159, k159, n159⟩, -, X159, ⟨Lc159, hQ159, l159, y159, z159⟩, st159⟩ := X127r.virtualBack hx (y := (⟨"com/example/makespun/makespun/pool/Slot", "equals", "(Ljava/lang/Object;)Z"⟩ : MethodName)) (z := (⟨"com/example/makespun/makespun/pool/Slot", "equals", "(Ljava/lang/Object;)Z"⟩ : MethodName)) hown127 (mvT hZ127 (hw _ (List.mem_of_getElem? (i := 112) rfl))) (mvT hZ127 (hw _ (List.mem_of_getElem? (i := 113) rfl))) (notFace_of_selects (args := #[]) (mvT hZ127 (hw _ (List.mem_of_getElem? (i := 115) rfl)))) (mvT hZ127 (hw _ (List.mem_of_getElem? (i := 115) rfl))) (mvT hZ127 (hw _ (List.mem_of_getElem? (i := 114) rfl))) (by decide) (backOf (W := 0) (rmEn l Z a0 hw [] b73 T127.heap n0 z145) hZ127 (hw _ (List.mem_of_getElem? (i := 116) rfl)) (hw _ (List.mem_of_getElem? (i := 96) rfl)) (by decide) (by decide)) q159a q159c (g := (mkF m 183 #[.val (.int ic), .val (.int i1), .val (.int i2), .val (.int ip), .val (.int ik), .val (.int co), .val (.ref b3), .val (.ref b27), .val (.int na), .val (.int nb), .val (.int (0 : Int32)), .val (.ref b3), .val (.ref b73), .val (.ref b107), .val (.int kk), .unset] [.null, (.ref b73)])) rfl (by rw [hml]; rfl) (Steps.refl _) (argsL := [.null]) (rest := []) (lenOf pd_14 rfl) rfl (by show 2 * 0 + _ ≤ _; exact Nat.le_of_eq rfl) (hb hby at_183) (fun _ _ => ⟨rfl, rfl, (by decide : 20 + 0 ≤ _), (by decide : 198 + 0 ≤ _)⟩)
      dsimp only [Pt.U, Pt.locs, Pt.cells, Pt.slots] at X159 l159 y159 z159 st159 hQ159
      subst l159 y159 z159
      obtain ⟨rfl, N159q, e159⟩ := hQ159
      have N159 := Fr.app N127 N159q
      obtain ⟨fs, hr, hrun, hended, hEnd⟩ := X159.leaveW (s := s) hS127 (by rw [e159]; exact (Nat.le_refl _)) (v := some (.int (1 : Int32))) (fun h => by rw [Bd.returns] at h; cases h)
      refine ⟨_, _, k157 _ ?_, hrun, hended, _, _, rfl, ?_, ?_, hEnd.1, hEnd.2.1, hEnd.2.2.1, hEnd.2.2.2.mono (by decide) (by decide)⟩
      · show Steps p.tables e below (T127.setTop (mkF m 177 #[.val (.int ic), .val (.int i1), .val (.int i2), .val (.int ip), .val (.int ik), .val (.int co), .val (.ref b3), .val (.ref b27), .val (.int na), .val (.int nb), .val (.int (0 : Int32)), .val (.ref b3), .val (.ref b73), .val (.ref b107), .val (.int kk), .unset] [(.int (1 : Int32)), (.int kk)])) _
        refine XS.icmpNo X127r.here hx rfl (hb hby at_177) rfl (teq hc158).2 ?_
        refine XS.aload X127r.here hx rfl (hb hby at_180) rfl rfl ?_
        show Steps p.tables e below (T127.setTop (mkF m 182 #[.val (.int ic), .val (.int i1), .val (.int i2), .val (.int ip), .val (.int ik), .val (.int co), .val (.ref b3), .val (.ref b27), .val (.int na), .val (.int nb), .val (.int (0 : Int32)), .val (.ref b3), .val (.ref b73), .val (.ref b107), .val (.int kk), .unset] [(.ref b73)])) _
        refine XS.aconstNull X127r.here hx rfl (hb hby at_182) ?_
        show Steps p.tables e below (T127.setTop (mkF m 183 #[.val (.int ic), .val (.int i1), .val (.int i2), .val (.int ip), .val (.int ik), .val (.int co), .val (.ref b3), .val (.ref b27), .val (.int na), .val (.int nb), .val (.int (0 : Int32)), .val (.ref b3), .val (.ref b73), .val (.ref b107), .val (.int kk), .unset] [.null, (.ref b73)])) _
        refine st159.trans ?_
        show Steps p.tables e below (T159.setTop (mkF m 186 #[.val (.int ic), .val (.int i1), .val (.int i2), .val (.int ip), .val (.int ik), .val (.int co), .val (.ref b3), .val (.ref b27), .val (.int na), .val (.int nb), .val (.int (0 : Int32)), .val (.ref b3), .val (.ref b73), .val (.ref b107), .val (.int kk), .unset] [(.int (0 : Int32))])) _
        refine XS.ifNo X159.here hx rfl (hb hby at_186) rfl ((if0 _ _).trans (teq (by decide : ((0 : Int32) = (0 : Int32)))).2) ?_
        refine XS.iconst X159.here hx rfl (hb hby at_189) ?_
        refine XS.goto X159.here hx rfl (pc0 := 190) (pc' := 194) rfl (hb hby at_190) (by decide) (by decide) ?_
        show Steps p.tables e below (T159.setTop (mkF m 194 #[.val (.int ic), .val (.int i1), .val (.int i2), .val (.int ip), .val (.int ik), .val (.int co), .val (.ref b3), .val (.ref b27), .val (.int na), .val (.int nb), .val (.int (0 : Int32)), .val (.ref b3), .val (.ref b73), .val (.ref b107), .val (.int kk), .unset] [(.int (1 : Int32))])) _
        exact retN X159 hx (t := .boolean) Bd.returns (by simp) (hb hby at_194) hr
      · show own_Q0 Z ic i1 i2 ip ik h0 n0 _ T159.heap _
        rw [e159]
        exact ⟨rfl, N159⟩
      · show CHr Z own_EL s.vm s.heap T159.vm T159.heap
        rw [hh, e159]
        exact CHr.trans R128 (CHv.at X159 hZ127 hEL R128.1)
    · have k160 : ∀ tq, Steps p.tables e below (T127.setTop (mkF m 198 #[.val (.int ic), .val (.int i1), .val (.int i2), .val (.int ip), .val (.int ik), .val (.int co), .val (.ref b3), .val (.ref b27), .val (.int na), .val (.int nb), .val (.int (0 : Int32)), .val (.ref b3), .val (.ref b73), .val (.ref b107), .val (.int kk), .unset] [(.int (2 : Int32)), (.int kk)])) tq → Steps p.tables e below (s₁.setTop (entryFrame m #[(.int ic), (.int i1), (.int i2), (.int ip), (.int ik)] maxLocals)) tq := by
        intro tq kt
        refine k157 tq ?_
        show Steps p.tables e below (T127.setTop (mkF m 177 #[.val (.int ic), .val (.int i1), .val (.int i2), .val (.int ip), .val (.int ik), .val (.int co), .val (.ref b3), .val (.ref b27), .val (.int na), .val (.int nb), .val (.int (0 : Int32)), .val (.ref b3), .val (.ref b73), .val (.ref b107), .val (.int kk), .unset] [(.int (1 : Int32)), (.int kk)])) _
        refine XS.icmpYes X127r.here hx rfl (pc0 := 177) (pc' := 195) rfl (hb hby at_177) rfl (feq hc158).2 (by decide) (by decide) ?_
        refine XS.iload X127r.here hx rfl (hb hby at_195) rfl ?_
        refine XS.iconst X127r.here hx rfl (hb hby at_197) ?_
        exact kt
      by_cases hc161 : kk = (2 : Int32)
      · obtain ⟨cq162, kq162, q162a, q162b, q162c⟩ := isOf hZ127 rfl f141
        obtain ⟨_, _, ⟨T162, L162, k162, n162⟩, -, X162, ⟨Lc162, hQ162, l162, y162, z162⟩, st162⟩ := X127r.virtualBack hx (y := (⟨"com/example/makespun/makespun/pool/Slot", "equals", "(Ljava/lang/Object;)Z"⟩ : MethodName)) (z := (⟨"com/example/makespun/makespun/pool/Slot", "equals", "(Ljava/lang/Object;)Z"⟩ : MethodName)) hown127 (mvT hZ127 (hw _ (List.mem_of_getElem? (i := 112) rfl))) (mvT hZ127 (hw _ (List.mem_of_getElem? (i := 113) rfl))) (notFace_of_selects (args := #[]) (mvT hZ127 (hw _ (List.mem_of_getElem? (i := 115) rfl)))) (mvT hZ127 (hw _ (List.mem_of_getElem? (i := 115) rfl))) (mvT hZ127 (hw _ (List.mem_of_getElem? (i := 114) rfl))) (by decide) (backOf (W := 0) (rmE l Z a0 hw [] b73 b73 b3 b3 na na T127.heap n0 z145 f141 f142 f143 f142 f143) hZ127 (hw _ (List.mem_of_getElem? (i := 116) rfl)) (hw _ (List.mem_of_getElem? (i := 96) rfl)) (by decide) (by decide)) q162a q162c (g := (mkF m 205 #[.val (.int ic), .val (.int i1), .val (.int i2), .val (.int ip), .val (.int ik), .val (.int co), .val (.ref b3), .val (.ref b27), .val (.int na), .val (.int nb), .val (.int (0 : Int32)), .val (.ref b3), .val (.ref b73), .val (.ref b107), .val (.int kk), .unset] [(.ref b73), (.ref b73)])) rfl (by rw [hml]; rfl) (Steps.refl _) (argsL := [(.ref b73)]) (rest := []) (lenOf pd_14 rfl) rfl (by show 2 * 0 + _ ≤ _; exact Nat.le_of_eq rfl) (hb hby at_205) (fun _ _ => ⟨rfl, rfl, (by decide : 20 + 0 ≤ _), (by decide : 198 + 0 ≤ _)⟩)
        dsimp only [Pt.U, Pt.locs, Pt.cells, Pt.slots] at X162 l162 y162 z162 st162 hQ162
        subst l162 y162 z162
        obtain ⟨rfl, N162q, e162⟩ := hQ162
        have N162 := Fr.app N127 N162q
        obtain ⟨fs, hr, hrun, hended, hEnd⟩ := X162.leaveW (s := s) hS127 (by rw [e162]; exact (Nat.le_refl _)) (v := some (.int (nar .boolean (own_se b3 b3 na na)))) (fun h => by rw [Bd.returns] at h; cases h)
        refine ⟨_, _, k160 _ ?_, hrun, hended, _, _, rfl, ?_, ?_, hEnd.1, hEnd.2.1, hEnd.2.2.1, hEnd.2.2.2.mono (by decide) (by decide)⟩
        · show Steps p.tables e below (T127.setTop (mkF m 198 #[.val (.int ic), .val (.int i1), .val (.int i2), .val (.int ip), .val (.int ik), .val (.int co), .val (.ref b3), .val (.ref b27), .val (.int na), .val (.int nb), .val (.int (0 : Int32)), .val (.ref b3), .val (.ref b73), .val (.ref b107), .val (.int kk), .unset] [(.int (2 : Int32)), (.int kk)])) _
          refine XS.icmpNo X127r.here hx rfl (hb hby at_198) rfl (teq hc161).2 ?_
          show Steps p.tables e below (T127.setTop (mkF m 201 #[.val (.int ic), .val (.int i1), .val (.int i2), .val (.int ip), .val (.int ik), .val (.int co), .val (.ref b3), .val (.ref b27), .val (.int na), .val (.int nb), .val (.int (0 : Int32)), .val (.ref b3), .val (.ref b73), .val (.ref b107), .val (.int kk), .unset] [])) _
          refine XS.aload X127r.here hx rfl (hb hby at_201) rfl rfl ?_
          refine XS.aload X127r.here hx rfl (hb hby at_203) rfl rfl ?_
          refine st162.trans ?_
          show Steps p.tables e below (T162.setTop (mkF m 208 #[.val (.int ic), .val (.int i1), .val (.int i2), .val (.int ip), .val (.int ik), .val (.int co), .val (.ref b3), .val (.ref b27), .val (.int na), .val (.int nb), .val (.int (0 : Int32)), .val (.ref b3), .val (.ref b73), .val (.ref b107), .val (.int kk), .unset] [(.int (own_se b3 b3 na na))])) _
          exact retN X162 hx (t := .boolean) Bd.returns (by simp) (hb hby at_208) hr
        · show own_Q0 Z ic i1 i2 ip ik h0 n0 _ T162.heap _
          rw [e162]
          exact ⟨by rw [haa]; rfl, N162⟩
        · show CHr Z own_EL s.vm s.heap T162.vm T162.heap
          rw [hh, e162]
          exact CHr.trans R128 (CHv.at X162 hZ127 hEL R128.1)
      · have k163 : ∀ tq, Steps p.tables e below (T127.setTop (mkF m 212 #[.val (.int ic), .val (.int i1), .val (.int i2), .val (.int ip), .val (.int ik), .val (.int co), .val (.ref b3), .val (.ref b27), .val (.int na), .val (.int nb), .val (.int (0 : Int32)), .val (.ref b3), .val (.ref b73), .val (.ref b107), .val (.int kk), .unset] [(.int (3 : Int32)), (.int kk)])) tq → Steps p.tables e below (s₁.setTop (entryFrame m #[(.int ic), (.int i1), (.int i2), (.int ip), (.int ik)] maxLocals)) tq := by
          intro tq kt
          refine k160 tq ?_
          show Steps p.tables e below (T127.setTop (mkF m 198 #[.val (.int ic), .val (.int i1), .val (.int i2), .val (.int ip), .val (.int ik), .val (.int co), .val (.ref b3), .val (.ref b27), .val (.int na), .val (.int nb), .val (.int (0 : Int32)), .val (.ref b3), .val (.ref b73), .val (.ref b107), .val (.int kk), .unset] [(.int (2 : Int32)), (.int kk)])) _
          refine XS.icmpYes X127r.here hx rfl (pc0 := 198) (pc' := 209) rfl (hb hby at_198) rfl (feq hc161).2 (by decide) (by decide) ?_
          refine XS.iload X127r.here hx rfl (hb hby at_209) rfl ?_
          refine XS.iconst X127r.here hx rfl (hb hby at_211) ?_
          exact kt
        by_cases hc164 : kk = (3 : Int32)
        · obtain ⟨_, _, ⟨T165, L165, k165, n165⟩, -, X165, ⟨Lc165, hQ165, l165, y165, z165⟩, st165⟩ := Jvm.LawKit.callS X127r hx (y := (⟨"java/lang/Integer", "valueOf", "(I)Ljava/lang/Integer;"⟩ : MethodName)) hown127 (mvT hZ127 (hw _ (List.mem_of_getElem? (i := 121) rfl))) (mvT hZ127 (hw _ (List.mem_of_getElem? (i := 122) rfl))) (mvT hZ127 (hw _ (List.mem_of_getElem? (i := 123) rfl))) (mvT hZ127 (hw _ (List.mem_of_getElem? (i := 124) rfl))) (by decide) (backOf (W := 1) (rmV l Z a0 hw [] na ca cl T127.heap n0 z145 (Kc.keep kp146) na0 na9) hZ127 (hw _ (List.mem_of_getElem? (i := 124) rfl)) (hw _ (List.mem_of_getElem? (i := 123) rfl)) (by decide) (by decide)) (g := (mkF m 219 #[.val (.int ic), .val (.int i1), .val (.int i2), .val (.int ip), .val (.int ik), .val (.int co), .val (.ref b3), .val (.ref b27), .val (.int na), .val (.int nb), .val (.int (0 : Int32)), .val (.ref b3), .val (.ref b73), .val (.ref b107), .val (.int kk), .unset] [(.int na), (.ref b73)])) rfl (by rw [hml]; rfl) (argsL := [(.int na)]) (rest := [(.ref b73)]) (lenOf pd_13 rfl) rfl (by show 2 * 0 + _ ≤ _; exact Nat.le_of_eq rfl) (hb hby at_219) (fun _ _ => ⟨rfl, rfl, (by decide : 20 + 0 ≤ _), (by decide : 198 + 0 ≤ _)⟩)
          dsimp only [Pt.U, Pt.locs, Pt.cells, Pt.slots] at X165 l165 y165 z165 st165 hQ165
          subst l165 y165 z165
          obtain ⟨bl165, rfl, N165q, ev165, Es165⟩ := hQ165
          have N165 := Fr.app N127 N165q
          rw [ev165] at Es165
          obtain ⟨cq166, kq166, q166a, q166b, q166c⟩ := isOf hZ127 ev165 f141
          obtain ⟨_, _, ⟨T166, L166, k166, n166⟩, -, X166, ⟨Lc166, hQ166, l166, y166, z166⟩, st166⟩ := X165.virtualBack hx (y := (⟨"com/example/makespun/makespun/pool/Slot", "equals", "(Ljava/lang/Object;)Z"⟩ : MethodName)) (z := (⟨"com/example/makespun/makespun/pool/Slot", "equals", "(Ljava/lang/Object;)Z"⟩ : MethodName)) hown127 (mvT hZ127 (hw _ (List.mem_of_getElem? (i := 112) rfl))) (mvT hZ127 (hw _ (List.mem_of_getElem? (i := 113) rfl))) (notFace_of_selects (args := #[]) (mvT hZ127 (hw _ (List.mem_of_getElem? (i := 115) rfl)))) (mvT hZ127 (hw _ (List.mem_of_getElem? (i := 115) rfl))) (mvT hZ127 (hw _ (List.mem_of_getElem? (i := 114) rfl))) (by decide) (backOf (W := 0) (rmEi l Z a0 hw [] b73 bl165 T127.heap n0 z145 Es165 hnoi) hZ127 (hw _ (List.mem_of_getElem? (i := 116) rfl)) (hw _ (List.mem_of_getElem? (i := 96) rfl)) (by decide) (by decide)) q166a q166c (g := (mkF m 222 #[.val (.int ic), .val (.int i1), .val (.int i2), .val (.int ip), .val (.int ik), .val (.int co), .val (.ref b3), .val (.ref b27), .val (.int na), .val (.int nb), .val (.int (0 : Int32)), .val (.ref b3), .val (.ref b73), .val (.ref b107), .val (.int kk), .unset] [(.ref bl165), (.ref b73)])) rfl (by rw [hml]; rfl) (Steps.refl _) (argsL := [(.ref bl165)]) (rest := []) (lenOf pd_14 rfl) rfl (by show 2 * 0 + _ ≤ _; exact Nat.le_of_eq rfl) (hb hby at_222) (fun _ _ => ⟨rfl, ev165, (by decide : 20 + 0 ≤ _), (by decide : 198 + 0 ≤ _)⟩)
          dsimp only [Pt.U, Pt.locs, Pt.cells, Pt.slots] at X166 l166 y166 z166 st166 hQ166
          subst l166 y166 z166
          obtain ⟨rfl, N166q, e166⟩ := hQ166
          have N166 := Fr.app N165 N166q
          obtain ⟨fs, hr, hrun, hended, hEnd⟩ := X166.leaveW (s := s) hS127 (by rw [e166]; exact (Nat.le_refl _)) (v := some (.int (1 : Int32))) (fun h => by rw [Bd.returns] at h; cases h)
          refine ⟨_, _, k163 _ ?_, hrun, hended, _, _, rfl, ?_, ?_, hEnd.1, hEnd.2.1, hEnd.2.2.1, hEnd.2.2.2.mono (by decide) (by decide)⟩
          · show Steps p.tables e below (T127.setTop (mkF m 212 #[.val (.int ic), .val (.int i1), .val (.int i2), .val (.int ip), .val (.int ik), .val (.int co), .val (.ref b3), .val (.ref b27), .val (.int na), .val (.int nb), .val (.int (0 : Int32)), .val (.ref b3), .val (.ref b73), .val (.ref b107), .val (.int kk), .unset] [(.int (3 : Int32)), (.int kk)])) _
            refine XS.icmpNo X127r.here hx rfl (hb hby at_212) rfl (teq hc164).2 ?_
            show Steps p.tables e below (T127.setTop (mkF m 215 #[.val (.int ic), .val (.int i1), .val (.int i2), .val (.int ip), .val (.int ik), .val (.int co), .val (.ref b3), .val (.ref b27), .val (.int na), .val (.int nb), .val (.int (0 : Int32)), .val (.ref b3), .val (.ref b73), .val (.ref b107), .val (.int kk), .unset] [])) _
            refine XS.aload X127r.here hx rfl (hb hby at_215) rfl rfl ?_
            refine XS.iload X127r.here hx rfl (hb hby at_217) rfl ?_
            refine st165 _ ?_
            refine st166.trans ?_
            show Steps p.tables e below (T166.setTop (mkF m 225 #[.val (.int ic), .val (.int i1), .val (.int i2), .val (.int ip), .val (.int ik), .val (.int co), .val (.ref b3), .val (.ref b27), .val (.int na), .val (.int nb), .val (.int (0 : Int32)), .val (.ref b3), .val (.ref b73), .val (.ref b107), .val (.int kk), .unset] [(.int (0 : Int32))])) _
            refine XS.ifNo X166.here hx rfl (hb hby at_225) rfl ((if0 _ _).trans (teq (by decide : ((0 : Int32) = (0 : Int32)))).2) ?_
            refine XS.iconst X166.here hx rfl (hb hby at_228) ?_
            show Steps p.tables e below (T166.setTop (mkF m 229 #[.val (.int ic), .val (.int i1), .val (.int i2), .val (.int ip), .val (.int ik), .val (.int co), .val (.ref b3), .val (.ref b27), .val (.int na), .val (.int nb), .val (.int (0 : Int32)), .val (.ref b3), .val (.ref b73), .val (.ref b107), .val (.int kk), .unset] [(.int (1 : Int32))])) _
            refine XS.goto X166.here hx rfl (pc0 := 229) (pc' := 233) rfl (hb hby at_229) (by decide) (by decide) ?_
            show Steps p.tables e below (T166.setTop (mkF m 233 #[.val (.int ic), .val (.int i1), .val (.int i2), .val (.int ip), .val (.int ik), .val (.int co), .val (.ref b3), .val (.ref b27), .val (.int na), .val (.int nb), .val (.int (0 : Int32)), .val (.ref b3), .val (.ref b73), .val (.ref b107), .val (.int kk), .unset] [(.int (1 : Int32))])) _
            exact retN X166 hx (t := .boolean) Bd.returns (by simp) (hb hby at_233) hr
          · show own_Q0 Z ic i1 i2 ip ik h0 n0 _ T166.heap _
            rw [e166]
            exact ⟨rfl, N166⟩
          · show CHr Z own_EL s.vm s.heap T166.vm T166.heap
            rw [hh, e166]
            exact CHr.trans R128 (CHv.at X166 hZ127 hEL R128.1)
        · obtain ⟨cq167, kq167, q167a, q167b, q167c⟩ := isOf hZ127 rfl f141
          obtain ⟨_, _, ⟨T167, L167, k167, n167⟩, -, X167, ⟨Lc167, hQ167, l167, y167, z167⟩, st167⟩ := X127r.virtualBack hx (y := (⟨"com/example/makespun/makespun/pool/Slot", "equals", "(Ljava/lang/Object;)Z"⟩ : MethodName)) (z := (⟨"com/example/makespun/makespun/pool/Slot", "equals", "(Ljava/lang/Object;)Z"⟩ : MethodName)) hown127 (mvT hZ127 (hw _ (List.mem_of_getElem? (i := 112) rfl))) (mvT hZ127 (hw _ (List.mem_of_getElem? (i := 113) rfl))) (notFace_of_selects (args := #[]) (mvT hZ127 (hw _ (List.mem_of_getElem? (i := 115) rfl)))) (mvT hZ127 (hw _ (List.mem_of_getElem? (i := 115) rfl))) (mvT hZ127 (hw _ (List.mem_of_getElem? (i := 114) rfl))) (by decide) (backOf (W := 0) (rmEm l Z a0 hw [] b73 b3 T127.heap n0 z145 f129 hnom) hZ127 (hw _ (List.mem_of_getElem? (i := 116) rfl)) (hw _ (List.mem_of_getElem? (i := 96) rfl)) (by decide) (by decide)) q167a q167c (g := (mkF m 238 #[.val (.int ic), .val (.int i1), .val (.int i2), .val (.int ip), .val (.int ik), .val (.int co), .val (.ref b3), .val (.ref b27), .val (.int na), .val (.int nb), .val (.int (0 : Int32)), .val (.ref b3), .val (.ref b73), .val (.ref b107), .val (.int kk), .unset] [(.ref b3), (.ref b73)])) rfl (by rw [hml]; rfl) (Steps.refl _) (argsL := [(.ref b3)]) (rest := []) (lenOf pd_14 rfl) rfl (by show 2 * 0 + _ ≤ _; exact Nat.le_of_eq rfl) (hb hby at_238) (fun _ _ => ⟨rfl, rfl, (by decide : 20 + 0 ≤ _), (by decide : 198 + 0 ≤ _)⟩)
          dsimp only [Pt.U, Pt.locs, Pt.cells, Pt.slots] at X167 l167 y167 z167 st167 hQ167
          subst l167 y167 z167
          obtain ⟨rfl, N167q, e167⟩ := hQ167
          have N167 := Fr.app N127 N167q
          obtain ⟨fs, hr, hrun, hended, hEnd⟩ := X167.leaveW (s := s) hS127 (by rw [e167]; exact (Nat.le_refl _)) (v := some (.int (1 : Int32))) (fun h => by rw [Bd.returns] at h; cases h)
          refine ⟨_, _, k163 _ ?_, hrun, hended, _, _, rfl, ?_, ?_, hEnd.1, hEnd.2.1, hEnd.2.2.1, hEnd.2.2.2.mono (by decide) (by decide)⟩
          · show Steps p.tables e below (T127.setTop (mkF m 212 #[.val (.int ic), .val (.int i1), .val (.int i2), .val (.int ip), .val (.int ik), .val (.int co), .val (.ref b3), .val (.ref b27), .val (.int na), .val (.int nb), .val (.int (0 : Int32)), .val (.ref b3), .val (.ref b73), .val (.ref b107), .val (.int kk), .unset] [(.int (3 : Int32)), (.int kk)])) _
            refine XS.icmpYes X127r.here hx rfl (pc0 := 212) (pc' := 234) rfl (hb hby at_212) rfl (feq hc164).2 (by decide) (by decide) ?_
            refine XS.aload X127r.here hx rfl (hb hby at_234) rfl rfl ?_
            refine XS.aload X127r.here hx rfl (hb hby at_236) rfl rfl ?_
            refine st167.trans ?_
            show Steps p.tables e below (T167.setTop (mkF m 241 #[.val (.int ic), .val (.int i1), .val (.int i2), .val (.int ip), .val (.int ik), .val (.int co), .val (.ref b3), .val (.ref b27), .val (.int na), .val (.int nb), .val (.int (0 : Int32)), .val (.ref b3), .val (.ref b73), .val (.ref b107), .val (.int kk), .unset] [(.int (0 : Int32))])) _
            refine XS.ifNo X167.here hx rfl (hb hby at_241) rfl ((if0 _ _).trans (teq (by decide : ((0 : Int32) = (0 : Int32)))).2) ?_
            refine XS.iconst X167.here hx rfl (hb hby at_244) ?_
            show Steps p.tables e below (T167.setTop (mkF m 245 #[.val (.int ic), .val (.int i1), .val (.int i2), .val (.int ip), .val (.int ik), .val (.int co), .val (.ref b3), .val (.ref b27), .val (.int na), .val (.int nb), .val (.int (0 : Int32)), .val (.ref b3), .val (.ref b73), .val (.ref b107), .val (.int kk), .unset] [(.int (1 : Int32))])) _
            refine XS.goto X167.here hx rfl (pc0 := 245) (pc' := 249) rfl (hb hby at_245) (by decide) (by decide) ?_
            show Steps p.tables e below (T167.setTop (mkF m 249 #[.val (.int ic), .val (.int i1), .val (.int i2), .val (.int ip), .val (.int ik), .val (.int co), .val (.ref b3), .val (.ref b27), .val (.int na), .val (.int nb), .val (.int (0 : Int32)), .val (.ref b3), .val (.ref b73), .val (.ref b107), .val (.int kk), .unset] [(.int (1 : Int32))])) _
            exact retN X167 hx (t := .boolean) Bd.returns (by simp) (hb hby at_249) hr
          · show own_Q0 Z ic i1 i2 ip ik h0 n0 _ T167.heap _
            rw [e167]
            exact ⟨rfl, N167⟩
          · show CHr Z own_EL s.vm s.heap T167.vm T167.heap
            rw [hh, e167]
            exact CHr.trans R128 (CHv.at X167 hZ127 hEL R128.1)
theorem rm0 (l : Launch) (Z : State) (a0 : Array Value) (hw : ∀ d ∈ tables_1, d.before a0 Z = true) (ws : List Jvm.Cond) (ic i1 i2 ip ik : Int32) (w : Int32) (ci cA : Addr) (clA : Cell) (ca : Addr) (cl : Cell) (h0 : Heap) (n0 : Nat) (Z0 : n0 ≤ h0.size) (J : own_J Z h0 w ci cA clA) (Kc : own_K Z h0 ca cl) :
    MetFree l x (head1 (Jvm.Cond.code x code maxLocals ret :: ws) room_1) (fun a U => a = #[(.int ic), (.int i1), (.int i2), (.int ip), (.int ik)] ∧ Z.Warmed39 U.vm ∧ U.heap = h0 ∧ CHv Z own_EL U.vm h0) (fun _ _ _ _ _ => True) (fun _ U o U' => ∃ v L, o = .returned v ∧ own_Q0 Z ic i1 i2 ip ik h0 n0 v U'.heap L ∧ CHr Z own_EL U.vm U.heap U'.vm U'.heap ∧ ReturnedEndW U o U' L room_1.cells room_1.slots) := by
  by_cases hot : (ip &&& (1 : Int32)) = (0 : Int32)
  · exact rm0_0 l Z a0 hw ws ic i1 i2 ip ik w ci cA clA ca cl h0 n0 Z0 J Kc hot
  · exact rm0_1 l Z a0 hw ws ic i1 i2 ip ik w ci cA clA ca cl h0 n0 Z0 J Kc hot
set_option maxRecDepth 65536 in
set_option maxHeartbeats 40000000 in
theorem comes_1 {Post : Tables → Env → Array Value → State → Outcome → State → Prop} (hpost : ∀ tb e args s v u, (limb_1_1.after args s (.returned v) u = true ∧ limb_1_2.after args s (.returned v) u = true ∧ True) → ReturnedEndW s (.returned v) u (Jvm.fieldLocs frame_1_writes args s ++ Jvm.arrayLocs frame_1_arrays args s ++ Jvm.staticLocs frame_1_statics s) 24 4224 → Post tb e args s (.returned v) u) :
    ArmFor flags0 classFile x code maxLocals ret World_1 tables_1 room_1 Calls_1 rest_1 Pre_1 Post := by
  intro l hfl _ _ p e ha hc hk s m args below hf hA hF happ hP
  obtain ⟨hcalls, hrest, hpre⟩ := hP
  obtain ⟨-, -, -, hnamed, -, -, -, hat⟩ := (Spec.applies_iff hf).mp happ
  obtain ⟨hg, hn⟩ := and_e (Cond.before_iff.mp (show (Jvm.Cond.and given_1 narrow_1).before args s = true from hpre))
  obtain ⟨hcount, hg0⟩ := and_e hg
  obtain ⟨hv0, hg1⟩ := and_e hg0
  obtain ⟨hv1, hg2⟩ := and_e hg1
  obtain ⟨hv2, hg3⟩ := and_e hg2
  obtain ⟨hv3, hg4⟩ := and_e hg3
  have hv4 := hg4
  obtain ⟨w0, w1, w2, w3, w4, rfl⟩ : ∃ w0 w1 w2 w3 w4 : Value, args = #[w0, w1, w2, w3, w4] := by
    have hs : args.size = 5 := by simpa [Cond.value, given_1] using hcount
    obtain ⟨L⟩ := args
    match L, hs with
    | [w0, w1, w2, w3, w4], _ => exact ⟨w0, w1, w2, w3, w4, rfl⟩
  have hw := fun d (hd : d ∈ tables_1) => atoms_spec (ws := Jvm.Cond.code x code maxLocals ret :: tables_1) hat d (List.mem_cons_of_mem _ hd)
  have hfit : Fit s := fun {y c} hc i hi => by
    obtain ⟨ha, rfl⟩ := Array.getElem?_eq_some_iff.mp hc
    have q := List.all_eq_true.mp ((Array.all_eq_true_iff_forall_mem.mp hF) _ (Array.getElem_mem ha)) i (List.mem_range.mpr hi)
    simpa [Array.getElem?_eq_getElem hi] using q
  obtain ⟨i0, ei0⟩ := is_v hv0
  obtain rfl : w0 = (.int i0) := Option.some.inj ei0
  obtain ⟨i1, ei1⟩ := is_v hv1
  obtain rfl : w1 = (.int i1) := Option.some.inj ei1
  obtain ⟨i2, ei2⟩ := is_v hv2
  obtain rfl : w2 = (.int i2) := Option.some.inj ei2
  obtain ⟨i3, ei3⟩ := is_v hv3
  obtain rfl : w3 = (.int i3) := Option.some.inj ei3
  obtain ⟨i4, ei4⟩ := is_v hv4
  obtain rfl : w4 = (.int i4) := Option.some.inj ei4
  obtain ⟨hsets, hown0⟩ := atoms_of _ (rest_1_c_eq ▸ (show rest_1_c.before _ s = true from hrest))
  obtain ⟨w, ew⟩ := is_v (Cond.before_iff.mp (hsets _ (List.mem_of_getElem? (i := 1) rfl)))
  have S0 : Sta s s.heap "java/lang/String" "COMPACT_STRINGS" "Z" (.int w) := Sta.start ew (Or.inl (hsets _ (List.mem_of_getElem? (i := 0) rfl)))
  have hw0 : ¬ w = (0 : Int32) := fun q => by
    have q2 := not_v (Cond.before_iff.mp (hsets _ (List.mem_of_getElem? (i := 2) rfl)))
    rw [eq_i ew (Term.int_eval (0)) (by rw [q])] at q2
    cases q2
  obtain ⟨ci, eci⟩ := exa_v (Cond.before_iff.mp (hsets _ (List.mem_of_getElem? (i := 11) rfl)))
  have Eci := Exa.start eci (Cond.before_iff.mp (hsets _ (List.mem_of_getElem? (i := 11) rfl)))
  have Si : Sta s s.heap "java/lang/CharacterDataLatin1" "instance" "Ljava/lang/CharacterDataLatin1;" (.ref ci) := Sta.start eci (Or.inl (hsets _ (List.mem_of_getElem? (i := 10) rfl)))
  obtain ⟨cA, ecA⟩ := arr_v (Cond.before_iff.mp (hsets _ (List.mem_of_getElem? (i := 14) rfl)))
  have SA : Sta s s.heap "java/lang/CharacterDataLatin1" "A" "[I" (.ref cA) := Sta.start ecA (Or.inl (hsets _ (List.mem_of_getElem? (i := 13) rfl)))
  obtain ⟨clA, ArA⟩ := Arr.start ecA (Cond.before_iff.mp (hsets _ (List.mem_of_getElem? (i := 14) rfl)))
  have hA97 : clA.slots[97]? = some (.int (8486882 : Int32)) := by
    have q := eqv_i (Term.int_eval (8486882)) (Cond.before_iff.mp (hsets _ (List.mem_of_getElem? (i := 114) rfl)))
    exact (elem_in q ecA (Term.int_eval (97)) ArA.1).2
  have J : own_J s s.heap w ci cA clA := ⟨S0, hw0, Si, Eci, SA, ArA, hA97⟩
  have eh := eqv_i (Term.int_eval (127)) (Cond.before_iff.mp (hsets _ (List.mem_of_getElem? (i := 276) rfl)))
  have Sh : Sta s s.heap "java/lang/Integer$IntegerCache" "high" "I" (.int (127 : Int32)) := Sta.start eh (Or.inl (hsets _ (List.mem_of_getElem? (i := 274) rfl)))
  have hA2 := (Cond.before_iff.mp (hsets _ (List.mem_of_getElem? (i := 277) rfl)))
  obtain ⟨ca, eca⟩ := arr_v hA2
  have Sc : Sta s s.heap "java/lang/Integer$IntegerCache" "cache" "[Ljava/lang/Integer;" (.ref ca) := Sta.start eca (Or.inr ⟨(hw _ (List.mem_of_getElem? (i := 126) rfl)), (hsets _ (List.mem_of_getElem? (i := 275) rfl))⟩)
  obtain ⟨cl, Ar⟩ := Arr.start eca hA2
  have hfin := Ar.fin (Vm.Alike.refl _)
  have hsz : cl.slots.size = 256 := by
    have h4 := (Cond.before_iff.mp (hsets _ (List.mem_of_getElem? (i := 279) rfl)))
    by_cases hl : cl.slots.size < 2 ^ 31
    · have e0 := (len_f eca hfin hl).symm.trans (eqv_i (Term.int_eval (256)) h4)
      have e : cl.slots.size.toInt32 = (256 : Int32) := by injection (Option.some.inj e0)
      have e2 := congrArg Int32.toInt e
      rw [len_toInt hl] at e2
      have e3 : (256 : Int32).toInt = 256 := by decide
      omega
    · exfalso; simp [Cond.value, Term.eval] at h4; simp [Term.eval] at eca; simp [eca, hfin, hl] at h4
  have Kc : own_K s s.heap ca cl := ⟨Sh, Sc, Ar, hsz, fun j hj => by
    have hi : j.toNatClampNeg < cl.slots.size := Nat.lt_of_not_le fun y => hj (Or.inr y)
    have q := Cond.all_elim eca hfin (Cond.before_iff.mp (hsets _ (List.mem_of_getElem? (i := 280) rfl))) _ hi
    obtain ⟨q1, -⟩ := and_e q
    obtain ⟨b, eb⟩ := exa_v q1
    exact ⟨b, (elem_in eb eca (idx_at fun y => hj (Or.inl y)) Ar.1).2, exa_at eb q1⟩⟩
  have hch : CHv s own_EL s.vm s.heap := by
    refine CHv.start (own_ew hw) (fun pq hpq => ?_) (hsets _ (List.mem_of_getElem? (i := 2) rfl)) (hw _ (List.mem_of_getElem? (i := 6) rfl)) (hw _ (List.mem_of_getElem? (i := 5) rfl))
    obtain rfl : pq = ("com/example/makespun/makespun/pool/SlotEqualsPinLaw", 9) := List.mem_singleton.mp hpq
    exact hcalls.1 ("com/example/makespun/makespun/pool/SlotEqualsPinLaw", 9) (by decide)
  obtain ⟨n, o, h1, h2, h3, _, L, rfl, ⟨rfl, N⟩, -, hq⟩ := rm0 l s _ hw tables_1 i0 i1 i2 i3 i4 w ci cA clA ca cl s.heap s.heap.size (Nat.le_refl _) J Kc p e ha hc hk s m _ below hf ((Spec.applies_iff_loose hf).mp happ).1 ⟨rfl, State.Warmed39.refl s, rfl, hch⟩ trivial
  refine ⟨n, _, h1, h2, h3, hpost _ _ _ _ _ _ ⟨Cond.after_iff.mpr rfl, Cond.after_iff.mpr (eq_i res_at (Term.int_eval (1)) rfl), trivial⟩ ⟨hq.1, hq.2.1, hq.2.2.1, (hq.2.2.2.sift fun y hy => Or.inr (N y hy)).mono (by decide) (by decide)⟩⟩
theorem main_1_1 : Claimed_1_1 := comes_1 fun _ _ _ _ _ _ h hF => ⟨h.1, hF⟩
theorem main_1_2 : Claimed_1_2 := comes_1 fun _ _ _ _ _ _ h hF => ⟨h.2.1, hF⟩
end Jvm.Pilot.@@N@@
namespace Jvm.Pilot.@@N@@
open Jvm Jvm.ClassFile Sem Op Lib Jvm.Free Jvm.Stand Jvm.Pilot.@@N@@.Jvm.D
/-! MADE BY PROGRAM (witnessworld.py) out of the Statement's table words and the real class files: 27 classes; the members and pool entries that the words name. The judged class is class 1, her method 1. -/
namespace start1
open Jvm.ClassFile
def u (s : String) : CpInfo := .utf8 (stringToUtf16 s)
/-- a pool by its gaps: so many unusable entries, then the entry; so many at the end -/
def gap : Nat → List CpInfo → List CpInfo
  | 0, r => r
  | n + 1, r => .unusable :: gap n r
def poolList (es : List (Nat × CpInfo)) (last : Nat) : List CpInfo := es.foldr (fun e r => gap e.1 (e.2 :: r)) (gap last [])
def pool (es : List (Nat × CpInfo)) (last : Nat) : Array CpInfo := ⟨poolList es last⟩
def fileOf (pool : Array CpInfo) (this : Nat) (attrs : Array Attribute := #[]) (ms : Array MethodInfo := #[]) (fl : Nat := 33) (sup : Nat := 0) (ifs : Array Nat := #[]) (fds : Array FieldInfo := #[]) : ClassFile where
  minorVersion := 0
  majorVersion := 65
  constantPool := pool
  accessFlags := fl
  thisClass := this
  superClass := sup
  interfaces := ifs
  fields := fds
  methods := ms
  attributes := attrs
def plain (name : String) (sup : Option ClassId) : Class where
  name := name
  kind := .ordinary
  loader := none
  accessFlags := 33
  super := sup
  interfaces := #[]
  cf := none
  fields := #[]
  methods := #[]
  instanceTypes := #[]
  staticTypes := #[]
  resolved := #[]
  callSites := []
  init := .initialized
  statics := none
  mirror := none

def pool0 : Array CpInfo := pool [(5, u "<init>"), (0, u "()V"), (1, .class_ 10), (1, u "java/lang/Object")] 113

def k0c0 : Code := { maxStack := 0, maxLocals := 1, code := object_method_1_code, exceptionTable := #[], attributes := #[] }
def k0m0 : Method := { name := "<init>", desc := "()V", sig := { parameters := [], returnType := none }, accessFlags := 1, code := some k0c0 }
/-- java/lang/Object -/
def k0 : Class := { plain "java/lang/Object" none with
  accessFlags := 33
  interfaces := #[]
  cf := some (fileOf pool0 8 #[] #[{ accessFlags := 1, nameIndex := 5, descriptorIndex := 6, attributes := #[] }] 33 0 #[] #[])
  fields := #[]
  methods := #[k0m0]
  instanceTypes := #[]
  staticTypes := #[]
  resolved := Array.replicate 124 none
  statics := none }

def pool1 : Array CpInfo := pool [(2, .class_ 4), (1, u "java/lang/Object"), (0, u "<init>"), (0, u "()V"), (0, .class_ 8), (0, u "com/example/makespun/makespun/pool/Machine"), (0, .string 10), (0, u "a"), (0, .methodref 7 12), (0, .nameAndType 5 13), (0, u "(Ljava/lang/String;DIDJ)V"), (0, .integer 2147483647), (0, .class_ 16), (0, u "com/example/makespun/makespun/pool/Slot"), (0, .methodref 15 18), (0, .nameAndType 5 19), (0, u "(Lcom/example/makespun/makespun/pool/Machine;I)V"), (0, .methodref 15 21), (0, .nameAndType 22 23), (0, u "equals"), (0, u "(Ljava/lang/Object;)Z"), (0, .methodref 25 26), (0, .class_ 27), (0, .nameAndType 28 29), (0, u "java/lang/Integer"), (0, u "valueOf"), (0, u "(I)Ljava/lang/Integer;"), (0, .class_ 31), (0, u "com/example/makespun/makespun/pool/SlotEqualsPinLaw"), (2, u "law"), (0, u "(IIIII)Z")] 3

def k1m0 : Method := { name := "<init>", desc := "()V", sig := { parameters := [], returnType := none }, accessFlags := 1, code := none }
def k1c1 : Code := { maxStack := 10, maxLocals := 16, code := code, exceptionTable := #[], attributes := #[] }
def k1m1 : Method := { name := "law", desc := "(IIIII)Z", sig := { parameters := [.int, .int, .int, .int, .int], returnType := some .boolean }, accessFlags := 9, code := some k1c1 }
/-- com/example/makespun/makespun/pool/SlotEqualsPinLaw -/
def k1 : Class := { plain "com/example/makespun/makespun/pool/SlotEqualsPinLaw" (some 0) with
  accessFlags := 49
  interfaces := #[]
  cf := some (fileOf pool1 30 #[] #[{ accessFlags := 1, nameIndex := 5, descriptorIndex := 6, attributes := #[] }, { accessFlags := 9, nameIndex := 34, descriptorIndex := 35, attributes := #[] }] 49 2 #[] #[])
  fields := #[]
  methods := #[k1m0, k1m1]
  instanceTypes := #[]
  staticTypes := #[]
  resolved := Array.replicate 39 none
  statics := none }

def pool2 : Array CpInfo := pool [(1, .methodref 2 3), (0, .class_ 4), (0, .nameAndType 5 6), (0, u "java/lang/Object"), (0, u "<init>"), (0, u "()V"), (0, .class_ 8), (0, u "com/example/makespun/makespun/pool/Machine"), (0, .string 10), (0, u "machine"), (0, .methodref 7 12), (0, .nameAndType 13 14), (0, u "checkAttributes"), (0, u "(Ljava/lang/String;Ljava/lang/String;DID)V"), (8, .fieldref 7 24), (0, .nameAndType 25 26), (0, u "name"), (0, u "Ljava/lang/String;"), (0, .fieldref 7 28), (0, .nameAndType 29 30), (0, u "speed"), (0, u "D"), (0, .fieldref 7 32), (0, .nameAndType 33 34), (0, u "cores"), (0, u "I"), (0, .fieldref 7 36), (0, .nameAndType 37 30), (0, u "pricePerHour"), (0, .fieldref 7 39), (0, .nameAndType 40 41), (0, u "storageBytes"), (0, u "J"), (0, .string 25), (0, .methodref 44 45), (0, .class_ 46), (0, .nameAndType 47 48), (0, u "java/util/Objects"), (0, u "requireNonNull"), (0, u "(Ljava/lang/Object;Ljava/lang/String;)Ljava/lang/Object;"), (0, .methodref 50 51), (0, .class_ 52), (0, .nameAndType 53 54), (0, u "java/lang/String"), (0, u "isBlank"), (0, u "()Z"), (2, .methodref 58 59), (0, .class_ 60), (0, .nameAndType 61 62), (0, u "java/lang/Double"), (0, u "isInfinite"), (0, u "(D)Z"), (15, u "UNLIMITED_STORAGE"), (3, u "KIND"), (0, u "(Ljava/lang/String;DIDJ)V"), (7, u "getCores"), (0, u "()I")] 32

def k2c0 : Code := { maxStack := 7, maxLocals := 9, code := prog_66_method_1_code, exceptionTable := #[], attributes := #[] }
def k2m0 : Method := { name := "<init>", desc := "(Ljava/lang/String;DIDJ)V", sig := { parameters := [(.object "java/lang/String"), .double, .int, .double, .long], returnType := none }, accessFlags := 1, code := some k2c0 }
def k2c1 : Code := { maxStack := 1, maxLocals := 1, code := prog_66_method_4_code, exceptionTable := #[], attributes := #[] }
def k2m1 : Method := { name := "getCores", desc := "()I", sig := { parameters := [], returnType := some .int }, accessFlags := 1, code := some k2c1 }
def k2c2 : Code := { maxStack := 4, maxLocals := 7, code := prog_66_method_9_code, exceptionTable := #[], attributes := #[] }
def k2m2 : Method := { name := "checkAttributes", desc := "(Ljava/lang/String;Ljava/lang/String;DID)V", sig := { parameters := [(.object "java/lang/String"), (.object "java/lang/String"), .double, .int, .double], returnType := none }, accessFlags := 8, code := some k2c2 }
/-- com/example/makespun/makespun/pool/Machine -/
def k2 : Class := { plain "com/example/makespun/makespun/pool/Machine" (some 0) with
  accessFlags := 49
  interfaces := #[]
  cf := some (fileOf pool2 7 #[] #[{ accessFlags := 1, nameIndex := 5, descriptorIndex := 83, attributes := #[] }, { accessFlags := 1, nameIndex := 91, descriptorIndex := 92, attributes := #[] }, { accessFlags := 8, nameIndex := 13, descriptorIndex := 14, attributes := #[] }] 49 2 #[] #[{ accessFlags := 25, nameIndex := 78, descriptorIndex := 41, attributes := #[] }, { accessFlags := 26, nameIndex := 82, descriptorIndex := 26, attributes := #[] }, { accessFlags := 18, nameIndex := 25, descriptorIndex := 26, attributes := #[] }, { accessFlags := 18, nameIndex := 29, descriptorIndex := 30, attributes := #[] }, { accessFlags := 18, nameIndex := 33, descriptorIndex := 34, attributes := #[] }, { accessFlags := 18, nameIndex := 37, descriptorIndex := 30, attributes := #[] }, { accessFlags := 18, nameIndex := 40, descriptorIndex := 41, attributes := #[] }])
  fields := #[{ name := "UNLIMITED_STORAGE", type := .long, accessFlags := 25, slot := 0, constantValue := 0 }, { name := "KIND", type := (.object "java/lang/String"), accessFlags := 26, slot := 1, constantValue := 0 }, { name := "name", type := (.object "java/lang/String"), accessFlags := 18, slot := 0, constantValue := 0 }, { name := "speed", type := .double, accessFlags := 18, slot := 1, constantValue := 0 }, { name := "cores", type := .int, accessFlags := 18, slot := 2, constantValue := 0 }, { name := "pricePerHour", type := .double, accessFlags := 18, slot := 3, constantValue := 0 }, { name := "storageBytes", type := .long, accessFlags := 18, slot := 4, constantValue := 0 }]
  methods := #[k2m0, k2m1, k2m2]
  instanceTypes := #[(.object "java/lang/String"), .double, .int, .double, .long]
  staticTypes := #[.long, (.object "java/lang/String")]
  resolved := Array.replicate 125 none
  statics := none }

def pool3 : Array CpInfo := pool [(1, .class_ 2), (0, u "java/io/Serializable"), (0, .class_ 4), (0, u "java/lang/Object")] 2

/-- java/io/Serializable -/
def k3 : Class := { plain "java/io/Serializable" (some 0) with
  accessFlags := 1537
  interfaces := #[]
  cf := some (fileOf pool3 1 #[] #[] 1537 3 #[] #[])
  fields := #[]
  methods := #[]
  instanceTypes := #[]
  staticTypes := #[]
  resolved := Array.replicate 7 none
  statics := none }

def pool4 : Array CpInfo := pool [(1, .class_ 2), (0, u "java/lang/Comparable"), (0, .class_ 4), (0, u "java/lang/Object")] 7

/-- java/lang/Comparable -/
def k4 : Class := { plain "java/lang/Comparable" (some 0) with
  accessFlags := 1537
  interfaces := #[]
  cf := some (fileOf pool4 1 #[] #[] 1537 3 #[] #[])
  fields := #[]
  methods := #[]
  instanceTypes := #[]
  staticTypes := #[]
  resolved := Array.replicate 12 none
  statics := none }

def pool5 : Array CpInfo := pool [(2, .class_ 4), (1, u "java/lang/CharSequence"), (42, .class_ 48), (0, u "java/lang/CharSequence$1CodePointIterator"), (10, .class_ 60), (0, u "java/lang/CharSequence$1CharIterator"), (5, .class_ 67), (0, u "java/lang/Object")] 63

/-- java/lang/CharSequence -/
def k5 : Class := { plain "java/lang/CharSequence" (some 0) with
  accessFlags := 1537
  interfaces := #[]
  cf := some (fileOf pool5 2 #[.nestMembers #[47, 59]] #[] 1537 66 #[] #[])
  fields := #[]
  methods := #[]
  instanceTypes := #[]
  staticTypes := #[]
  resolved := Array.replicate 131 none
  statics := none }

def pool6 : Array CpInfo := pool [(1, .class_ 2), (0, u "java/lang/constant/Constable"), (0, .class_ 4), (0, u "java/lang/Object")] 6

/-- java/lang/constant/Constable -/
def k6 : Class := { plain "java/lang/constant/Constable" (some 0) with
  accessFlags := 1537
  interfaces := #[]
  cf := some (fileOf pool6 1 #[] #[] 1537 3 #[] #[])
  fields := #[]
  methods := #[]
  instanceTypes := #[]
  staticTypes := #[]
  resolved := Array.replicate 11 none
  statics := none }

def pool7 : Array CpInfo := pool [(1, .class_ 2), (0, u "java/lang/constant/ConstantDesc"), (0, .class_ 4), (0, u "java/lang/Object")] 32

/-- java/lang/constant/ConstantDesc -/
def k7 : Class := { plain "java/lang/constant/ConstantDesc" (some 0) with
  accessFlags := 1537
  interfaces := #[]
  cf := some (fileOf pool7 1 #[] #[] 1537 3 #[] #[])
  fields := #[]
  methods := #[]
  instanceTypes := #[]
  staticTypes := #[]
  resolved := Array.replicate 37 none
  statics := none }

def pool8 : Array CpInfo := pool [(2, .class_ 4), (1, u "java/lang/Object"), (0, u "<init>"), (0, u "()V"), (2, .fieldref 10 11), (0, .class_ 12), (0, .nameAndType 13 14), (0, u "java/lang/String"), (0, u "value"), (0, u "[B"), (0, .fieldref 10 16), (0, .nameAndType 17 18), (0, u "coder"), (0, u "B"), (2, u "hash"), (0, u "I"), (2, u "hashIsZero"), (0, u "Z"), (11, .fieldref 10 39), (0, .nameAndType 40 26), (0, u "COMPACT_STRINGS"), (66, .class_ 109), (1, u "java/lang/StringLatin1"), (32, u "()Z"), (191, u "()I"), (0, .methodref 10 336), (0, .nameAndType 17 337), (0, u "()B"), (154, .methodref 10 493), (0, .nameAndType 494 142), (0, u "isLatin1"), (10, .methodref 10 506), (0, .nameAndType 507 334), (0, u "length"), (67, .class_ 576), (0, u "java/lang/CharSequence"), (22, u "CASE_INSENSITIVE_ORDER"), (0, u "Ljava/util/Comparator;"), (30, u "([B)I"), (244, .methodref 10 877), (0, .nameAndType 878 334), (0, u "indexOfNonWhitespace"), (45, .methodref 107 925), (0, .nameAndType 878 631), (26, u "isBlank"), (148, u "serialPersistentFields"), (0, u "[Ljava/io/ObjectStreamField;"), (0, .class_ 1104), (0, u "java/lang/String$CaseInsensitiveComparator"), (1, .class_ 1107), (0, u "java/io/Serializable"), (0, .class_ 1109), (0, u "java/lang/Comparable"), (0, .class_ 1111), (0, u "java/lang/constant/Constable"), (0, .class_ 1113), (0, u "java/lang/constant/ConstantDesc"), (2, u "serialVersionUID"), (0, u "J"), (3, u "REPL"), (0, u "C"), (2, u "LATIN1"), (1, u "UTF16")] 323

def k8m0 : Method := { name := "<init>", desc := "()V", sig := { parameters := [], returnType := none }, accessFlags := 1, code := none }
def k8c1 : Code := { maxStack := 2, maxLocals := 1, code := jdk_42_method_54_code, exceptionTable := #[], attributes := #[] }
def k8m1 : Method := { name := "length", desc := "()I", sig := { parameters := [], returnType := some .int }, accessFlags := 1, code := some k8c1 }
def k8c2 : Code := { maxStack := 2, maxLocals := 1, code := jdk_42_method_117_code, exceptionTable := #[], attributes := #[] }
def k8m2 : Method := { name := "isBlank", desc := "()Z", sig := { parameters := [], returnType := some .boolean }, accessFlags := 1, code := some k8c2 }
def k8c3 : Code := { maxStack := 1, maxLocals := 1, code := jdk_42_method_120_code, exceptionTable := #[], attributes := #[] }
def k8m3 : Method := { name := "indexOfNonWhitespace", desc := "()I", sig := { parameters := [], returnType := some .int }, accessFlags := 2, code := some k8c3 }
def k8c4 : Code := { maxStack := 1, maxLocals := 1, code := jdk_42_method_152_code, exceptionTable := #[], attributes := #[] }
def k8m4 : Method := { name := "coder", desc := "()B", sig := { parameters := [], returnType := some .byte }, accessFlags := 0, code := some k8c4 }
def k8c5 : Code := { maxStack := 1, maxLocals := 1, code := jdk_42_method_154_code, exceptionTable := #[], attributes := #[] }
def k8m5 : Method := { name := "isLatin1", desc := "()Z", sig := { parameters := [], returnType := some .boolean }, accessFlags := 0, code := some k8c5 }
/-- java/lang/String -/
def k8 : Class := { plain "java/lang/String" (some 0) with
  accessFlags := 49
  interfaces := #[3, 4, 5, 6, 7]
  cf := some (fileOf pool8 10 #[.nestMembers #[1103]] #[{ accessFlags := 1, nameIndex := 5, descriptorIndex := 6, attributes := #[] }, { accessFlags := 1, nameIndex := 507, descriptorIndex := 334, attributes := #[] }, { accessFlags := 1, nameIndex := 952, descriptorIndex := 142, attributes := #[] }, { accessFlags := 2, nameIndex := 878, descriptorIndex := 334, attributes := #[] }, { accessFlags := 0, nameIndex := 17, descriptorIndex := 337, attributes := #[] }, { accessFlags := 0, nameIndex := 494, descriptorIndex := 142, attributes := #[] }] 49 2 #[1106, 1108, 575, 1110, 1112] #[{ accessFlags := 18, nameIndex := 13, descriptorIndex := 14, attributes := #[] }, { accessFlags := 18, nameIndex := 17, descriptorIndex := 18, attributes := #[] }, { accessFlags := 2, nameIndex := 21, descriptorIndex := 22, attributes := #[] }, { accessFlags := 2, nameIndex := 25, descriptorIndex := 26, attributes := #[] }, { accessFlags := 26, nameIndex := 1116, descriptorIndex := 1117, attributes := #[] }, { accessFlags := 24, nameIndex := 40, descriptorIndex := 26, attributes := #[] }, { accessFlags := 26, nameIndex := 1101, descriptorIndex := 1102, attributes := #[] }, { accessFlags := 26, nameIndex := 1121, descriptorIndex := 1122, attributes := #[] }, { accessFlags := 25, nameIndex := 599, descriptorIndex := 600, attributes := #[] }, { accessFlags := 24, nameIndex := 1125, descriptorIndex := 18, attributes := #[] }, { accessFlags := 24, nameIndex := 1127, descriptorIndex := 18, attributes := #[] }])
  fields := #[{ name := "value", type := (.array .byte), accessFlags := 18, slot := 0, constantValue := 0 }, { name := "coder", type := .byte, accessFlags := 18, slot := 1, constantValue := 0 }, { name := "hash", type := .int, accessFlags := 2, slot := 2, constantValue := 0 }, { name := "hashIsZero", type := .boolean, accessFlags := 2, slot := 3, constantValue := 0 }, { name := "serialVersionUID", type := .long, accessFlags := 26, slot := 0, constantValue := 0 }, { name := "COMPACT_STRINGS", type := .boolean, accessFlags := 24, slot := 1, constantValue := 0 }, { name := "serialPersistentFields", type := (.array (.object "java/io/ObjectStreamField")), accessFlags := 26, slot := 2, constantValue := 0 }, { name := "REPL", type := .char, accessFlags := 26, slot := 3, constantValue := 0 }, { name := "CASE_INSENSITIVE_ORDER", type := (.object "java/util/Comparator"), accessFlags := 25, slot := 4, constantValue := 0 }, { name := "LATIN1", type := .byte, accessFlags := 24, slot := 5, constantValue := 0 }, { name := "UTF16", type := .byte, accessFlags := 24, slot := 6, constantValue := 0 }]
  methods := #[k8m0, k8m1, k8m2, k8m3, k8m4, k8m5]
  instanceTypes := #[(.array .byte), .byte, .int, .boolean]
  staticTypes := #[.long, .boolean, (.array (.object "java/io/ObjectStreamField")), .char, (.object "java/util/Comparator"), .byte, .byte]
  resolved := Array.replicate 1451 none
  statics := some 0 }

def pool9 : Array CpInfo := pool [(2, .class_ 4), (1, u "java/lang/Object"), (0, u "<init>"), (0, u "()V"), (35, .class_ 44), (1, u "java/util/Objects"), (0, u "requireNonNull"), (48, u "(Ljava/lang/Object;Ljava/lang/String;)Ljava/lang/Object;")] 89

def k9m0 : Method := { name := "<init>", desc := "()V", sig := { parameters := [], returnType := none }, accessFlags := 2, code := none }
def k9c1 : Code := { maxStack := 3, maxLocals := 2, code := jdk_31_method_11_code, exceptionTable := #[], attributes := #[] }
def k9m1 : Method := { name := "requireNonNull", desc := "(Ljava/lang/Object;Ljava/lang/String;)Ljava/lang/Object;", sig := { parameters := [(.object "java/lang/Object"), (.object "java/lang/String")], returnType := some (.object "java/lang/Object") }, accessFlags := 9, code := some k9c1 }
/-- java/util/Objects -/
def k9 : Class := { plain "java/util/Objects" (some 0) with
  accessFlags := 49
  interfaces := #[]
  cf := some (fileOf pool9 42 #[] #[{ accessFlags := 2, nameIndex := 5, descriptorIndex := 6, attributes := #[] }, { accessFlags := 9, nameIndex := 45, descriptorIndex := 94, attributes := #[] }] 49 2 #[] #[])
  fields := #[]
  methods := #[k9m0, k9m1]
  instanceTypes := #[]
  staticTypes := #[]
  resolved := Array.replicate 184 none
  statics := none }

def pool10 : Array CpInfo := pool [(4, .class_ 6), (1, u "java/lang/Object"), (0, u "<init>"), (0, u "()V"), (5, .class_ 16), (1, u "java/lang/StringLatin1"), (33, .methodref 14 51), (0, .nameAndType 52 53), (0, u "getChar"), (0, u "([BI)C"), (3, u "([B)I"), (8, .fieldref 67 68), (0, .class_ 69), (0, .nameAndType 70 71), (0, u "java/lang/CharacterDataLatin1"), (0, u "instance"), (0, u "Ljava/lang/CharacterDataLatin1;"), (19, u "(I)Z"), (29, u "$assertionsDisabled"), (0, u "Z"), (88, .methodref 67 212), (0, .nameAndType 213 91), (0, u "isWhitespace"), (2, u "indexOfNonWhitespace"), (4, .class_ 223), (1, u "java/lang/StringLatin1$LinesSpliterator"), (166, .class_ 391), (0, u "java/lang/StringLatin1$CharsSpliterator")] 3

def k10m0 : Method := { name := "<init>", desc := "()V", sig := { parameters := [], returnType := none }, accessFlags := 0, code := none }
def k10c1 : Code := { maxStack := 2, maxLocals := 4, code := jdk_43_method_37_code, exceptionTable := #[], attributes := #[] }
def k10m1 : Method := { name := "indexOfNonWhitespace", desc := "([B)I", sig := { parameters := [(.array .byte)], returnType := some .int }, accessFlags := 9, code := some k10c1 }
def k10c2 : Code := { maxStack := 2, maxLocals := 2, code := jdk_43_method_44_code, exceptionTable := #[], attributes := #[] }
def k10m2 : Method := { name := "getChar", desc := "([BI)C", sig := { parameters := [(.array .byte), .int], returnType := some .char }, accessFlags := 9, code := some k10c2 }
/-- java/lang/StringLatin1 -/
def k10 : Class := { plain "java/lang/StringLatin1" (some 0) with
  accessFlags := 48
  interfaces := #[]
  cf := some (fileOf pool10 14 #[.nestMembers #[390, 221]] #[{ accessFlags := 0, nameIndex := 7, descriptorIndex := 8, attributes := #[] }, { accessFlags := 9, nameIndex := 216, descriptorIndex := 57, attributes := #[] }, { accessFlags := 9, nameIndex := 52, descriptorIndex := 53, attributes := #[] }] 48 4 #[] #[{ accessFlags := 4120, nameIndex := 121, descriptorIndex := 122, attributes := #[] }])
  fields := #[{ name := "$assertionsDisabled", type := .boolean, accessFlags := 4120, slot := 0, constantValue := 0 }]
  methods := #[k10m0, k10m1, k10m2]
  instanceTypes := #[]
  staticTypes := #[.boolean]
  resolved := Array.replicate 395 none
  statics := none }

def pool11 : Array CpInfo := pool [(2, .class_ 4), (1, u "java/lang/Object"), (0, u "<init>"), (0, u "()V"), (1, .class_ 10), (1, u "java/lang/CharacterData")] 75

def k11m0 : Method := { name := "<init>", desc := "()V", sig := { parameters := [], returnType := none }, accessFlags := 0, code := none }
/-- java/lang/CharacterData -/
def k11 : Class := { plain "java/lang/CharacterData" (some 0) with
  accessFlags := 1056
  interfaces := #[]
  cf := some (fileOf pool11 8 #[] #[{ accessFlags := 0, nameIndex := 5, descriptorIndex := 6, attributes := #[] }] 1056 2 #[] #[])
  fields := #[]
  methods := #[k11m0]
  instanceTypes := #[]
  staticTypes := #[]
  resolved := Array.replicate 86 none
  statics := none }

def pool12 : Array CpInfo := pool [(1, .fieldref 2 3), (0, .class_ 4), (0, .nameAndType 5 6), (0, u "java/lang/CharacterDataLatin1"), (0, u "A"), (0, u "[I"), (2, u "B"), (0, u "[C"), (3, u "(I)I"), (0, .methodref 2 16), (0, .nameAndType 17 14), (0, u "getProperties"), (3, u "(I)Z"), (5, u "DIGITS"), (0, u "[B"), (8, u "sharpsMap"), (1, .class_ 41), (1, u "java/lang/CharacterData"), (0, u "<init>"), (0, u "()V"), (3, u "instance"), (0, u "Ljava/lang/CharacterDataLatin1;"), (78, u "isWhitespace")] 13

def k12c0 : Code := { maxStack := 2, maxLocals := 4, code := jdk_116_method_1_code, exceptionTable := #[], attributes := #[] }
def k12m0 : Method := { name := "getProperties", desc := "(I)I", sig := { parameters := [.int], returnType := some .int }, accessFlags := 0, code := some k12c0 }
def k12c1 : Code := { maxStack := 2, maxLocals := 3, code := jdk_116_method_26_code, exceptionTable := #[], attributes := #[] }
def k12m1 : Method := { name := "isWhitespace", desc := "(I)Z", sig := { parameters := [.int], returnType := some .boolean }, accessFlags := 0, code := some k12c1 }
def k12m2 : Method := { name := "<init>", desc := "()V", sig := { parameters := [], returnType := none }, accessFlags := 2, code := none }
/-- java/lang/CharacterDataLatin1 -/
def k12 : Class := { plain "java/lang/CharacterDataLatin1" (some 11) with
  accessFlags := 32
  interfaces := #[]
  cf := some (fileOf pool12 2 #[] #[{ accessFlags := 0, nameIndex := 17, descriptorIndex := 14, attributes := #[] }, { accessFlags := 0, nameIndex := 127, descriptorIndex := 21, attributes := #[] }, { accessFlags := 2, nameIndex := 42, descriptorIndex := 43, attributes := #[] }] 32 39 #[] #[{ accessFlags := 26, nameIndex := 27, descriptorIndex := 28, attributes := #[] }, { accessFlags := 8, nameIndex := 37, descriptorIndex := 10, attributes := #[] }, { accessFlags := 24, nameIndex := 47, descriptorIndex := 48, attributes := #[] }, { accessFlags := 24, nameIndex := 5, descriptorIndex := 6, attributes := #[] }, { accessFlags := 24, nameIndex := 9, descriptorIndex := 10, attributes := #[] }])
  fields := #[{ name := "DIGITS", type := (.array .byte), accessFlags := 26, slot := 0, constantValue := 0 }, { name := "sharpsMap", type := (.array .char), accessFlags := 8, slot := 1, constantValue := 0 }, { name := "instance", type := (.object "java/lang/CharacterDataLatin1"), accessFlags := 24, slot := 2, constantValue := 0 }, { name := "A", type := (.array .int), accessFlags := 24, slot := 3, constantValue := 0 }, { name := "B", type := (.array .char), accessFlags := 24, slot := 4, constantValue := 0 }]
  methods := #[k12m0, k12m1, k12m2]
  instanceTypes := #[]
  staticTypes := #[(.array .byte), (.array .char), (.object "java/lang/CharacterDataLatin1"), (.array .int), (.array .char)]
  resolved := Array.replicate 141 none
  statics := some 1 }

def pool13 : Array CpInfo := pool [(2, .class_ 4), (1, u "java/lang/Object"), (0, u "<init>"), (0, u "()V"), (1, .class_ 10), (1, u "java/lang/Number"), (2, .class_ 14), (0, u "java/io/Serializable"), (0, u "serialVersionUID"), (0, u "J")] 20

def k13m0 : Method := { name := "<init>", desc := "()V", sig := { parameters := [], returnType := none }, accessFlags := 1, code := none }
/-- java/lang/Number -/
def k13 : Class := { plain "java/lang/Number" (some 0) with
  accessFlags := 1057
  interfaces := #[3]
  cf := some (fileOf pool13 8 #[] #[{ accessFlags := 1, nameIndex := 5, descriptorIndex := 6, attributes := #[] }] 1057 2 #[13] #[{ accessFlags := 26, nameIndex := 15, descriptorIndex := 16, attributes := #[] }])
  fields := #[{ name := "serialVersionUID", type := .long, accessFlags := 26, slot := 0, constantValue := 0 }]
  methods := #[k13m0]
  instanceTypes := #[]
  staticTypes := #[.long]
  resolved := Array.replicate 37 none
  statics := none }

def pool14 : Array CpInfo := pool [(1, .class_ 2), (0, u "java/lang/Double"), (11, u "(D)Z"), (8, .class_ 25), (1, u "java/lang/Math"), (12, .methodref 23 39), (0, .nameAndType 40 41), (0, u "abs"), (0, u "(D)D"), (69, .double 9218868437227405311), (2, .class_ 116), (1, u "java/lang/Number"), (3, u "value"), (0, u "D"), (5, u "isInfinite"), (45, u "TYPE"), (0, u "Ljava/lang/Class;"), (0, .class_ 176), (0, u "java/lang/Comparable"), (0, .class_ 178), (0, u "java/lang/constant/Constable"), (0, .class_ 180), (0, u "java/lang/constant/ConstantDesc"), (0, u "POSITIVE_INFINITY"), (3, u "NEGATIVE_INFINITY"), (2, u "NaN"), (2, u "MAX_VALUE"), (0, u "MIN_NORMAL"), (0, u "MIN_VALUE"), (2, u "SIZE"), (0, u "I"), (1, u "PRECISION"), (1, u "MAX_EXPONENT"), (1, u "MIN_EXPONENT"), (1, u "BYTES"), (3, u "serialVersionUID"), (0, u "J")] 79

def k14c0 : Code := { maxStack := 4, maxLocals := 2, code := jdk_117_method_7_code, exceptionTable := #[], attributes := #[] }
def k14m0 : Method := { name := "isInfinite", desc := "(D)Z", sig := { parameters := [.double], returnType := some .boolean }, accessFlags := 9, code := some k14c0 }
/-- java/lang/Double -/
def k14 : Class := { plain "java/lang/Double" (some 13) with
  accessFlags := 49
  interfaces := #[4, 6, 7]
  cf := some (fileOf pool14 1 #[] #[{ accessFlags := 9, nameIndex := 127, descriptorIndex := 14, attributes := #[] }] 49 114 #[175, 177, 179] #[{ accessFlags := 25, nameIndex := 181, descriptorIndex := 121, attributes := #[] }, { accessFlags := 25, nameIndex := 185, descriptorIndex := 121, attributes := #[] }, { accessFlags := 25, nameIndex := 188, descriptorIndex := 121, attributes := #[] }, { accessFlags := 25, nameIndex := 191, descriptorIndex := 121, attributes := #[] }, { accessFlags := 25, nameIndex := 192, descriptorIndex := 121, attributes := #[] }, { accessFlags := 25, nameIndex := 193, descriptorIndex := 121, attributes := #[] }, { accessFlags := 25, nameIndex := 196, descriptorIndex := 197, attributes := #[] }, { accessFlags := 25, nameIndex := 199, descriptorIndex := 197, attributes := #[] }, { accessFlags := 25, nameIndex := 201, descriptorIndex := 197, attributes := #[] }, { accessFlags := 25, nameIndex := 203, descriptorIndex := 197, attributes := #[] }, { accessFlags := 25, nameIndex := 205, descriptorIndex := 197, attributes := #[] }, { accessFlags := 25, nameIndex := 173, descriptorIndex := 174, attributes := #[] }, { accessFlags := 18, nameIndex := 120, descriptorIndex := 121, attributes := #[] }, { accessFlags := 26, nameIndex := 209, descriptorIndex := 210, attributes := #[] }])
  fields := #[{ name := "POSITIVE_INFINITY", type := .double, accessFlags := 25, slot := 0, constantValue := 0 }, { name := "NEGATIVE_INFINITY", type := .double, accessFlags := 25, slot := 1, constantValue := 0 }, { name := "NaN", type := .double, accessFlags := 25, slot := 2, constantValue := 0 }, { name := "MAX_VALUE", type := .double, accessFlags := 25, slot := 3, constantValue := 0 }, { name := "MIN_NORMAL", type := .double, accessFlags := 25, slot := 4, constantValue := 0 }, { name := "MIN_VALUE", type := .double, accessFlags := 25, slot := 5, constantValue := 0 }, { name := "SIZE", type := .int, accessFlags := 25, slot := 6, constantValue := 0 }, { name := "PRECISION", type := .int, accessFlags := 25, slot := 7, constantValue := 0 }, { name := "MAX_EXPONENT", type := .int, accessFlags := 25, slot := 8, constantValue := 0 }, { name := "MIN_EXPONENT", type := .int, accessFlags := 25, slot := 9, constantValue := 0 }, { name := "BYTES", type := .int, accessFlags := 25, slot := 10, constantValue := 0 }, { name := "TYPE", type := (.object "java/lang/Class"), accessFlags := 25, slot := 11, constantValue := 0 }, { name := "value", type := .double, accessFlags := 18, slot := 0, constantValue := 0 }, { name := "serialVersionUID", type := .long, accessFlags := 26, slot := 12, constantValue := 0 }]
  methods := #[k14m0]
  instanceTypes := #[.double]
  staticTypes := #[.double, .double, .double, .double, .double, .double, .int, .int, .int, .int, .int, (.object "java/lang/Class"), .long]
  resolved := Array.replicate 290 none
  statics := none }

def pool15 : Array CpInfo := pool [(1, .class_ 2), (0, u "java/lang/Math"), (1, .class_ 6), (1, u "java/lang/Object"), (0, u "<init>"), (0, u "()V"), (5, u "(D)D"), (83, .class_ 100), (1, u "java/lang/Math$RandomNumberGeneratorHolder"), (23, u "abs"), (47, u "negativeZeroFloatBits"), (0, u "J"), (2, u "negativeZeroDoubleBits"), (68, u "$assertionsDisabled"), (0, u "Z"), (91, u "twoToTheDoubleScaleDown"), (0, u "D"), (4, u "twoToTheDoubleScaleUp"), (9, u "E"), (3, u "PI"), (2, u "TAU"), (2, u "DEGREES_TO_RADIANS"), (0, u "RADIANS_TO_DEGREES")] 94

def k15m0 : Method := { name := "<init>", desc := "()V", sig := { parameters := [], returnType := none }, accessFlags := 2, code := none }
def k15c1 : Code := { maxStack := 4, maxLocals := 2, code := jdk_29_method_64_code, exceptionTable := #[], attributes := #[] }
def k15m1 : Method := { name := "abs", desc := "(D)D", sig := { parameters := [.double], returnType := some .double }, accessFlags := 9, code := some k15c1 }
/-- java/lang/Math -/
def k15 : Class := { plain "java/lang/Math" (some 0) with
  accessFlags := 49
  interfaces := #[]
  cf := some (fileOf pool15 1 #[.nestMembers #[98]] #[{ accessFlags := 2, nameIndex := 7, descriptorIndex := 8, attributes := #[] }, { accessFlags := 9, nameIndex := 124, descriptorIndex := 14, attributes := #[] }] 49 4 #[] #[{ accessFlags := 25, nameIndex := 354, descriptorIndex := 339, attributes := #[] }, { accessFlags := 25, nameIndex := 358, descriptorIndex := 339, attributes := #[] }, { accessFlags := 25, nameIndex := 361, descriptorIndex := 339, attributes := #[] }, { accessFlags := 26, nameIndex := 364, descriptorIndex := 339, attributes := #[] }, { accessFlags := 26, nameIndex := 365, descriptorIndex := 339, attributes := #[] }, { accessFlags := 26, nameIndex := 172, descriptorIndex := 173, attributes := #[] }, { accessFlags := 26, nameIndex := 176, descriptorIndex := 173, attributes := #[] }, { accessFlags := 8, nameIndex := 344, descriptorIndex := 339, attributes := #[] }, { accessFlags := 8, nameIndex := 338, descriptorIndex := 339, attributes := #[] }, { accessFlags := 4120, nameIndex := 245, descriptorIndex := 246, attributes := #[] }])
  fields := #[{ name := "E", type := .double, accessFlags := 25, slot := 0, constantValue := 0 }, { name := "PI", type := .double, accessFlags := 25, slot := 1, constantValue := 0 }, { name := "TAU", type := .double, accessFlags := 25, slot := 2, constantValue := 0 }, { name := "DEGREES_TO_RADIANS", type := .double, accessFlags := 26, slot := 3, constantValue := 0 }, { name := "RADIANS_TO_DEGREES", type := .double, accessFlags := 26, slot := 4, constantValue := 0 }, { name := "negativeZeroFloatBits", type := .long, accessFlags := 26, slot := 5, constantValue := 0 }, { name := "negativeZeroDoubleBits", type := .long, accessFlags := 26, slot := 6, constantValue := 0 }, { name := "twoToTheDoubleScaleUp", type := .double, accessFlags := 8, slot := 7, constantValue := 0 }, { name := "twoToTheDoubleScaleDown", type := .double, accessFlags := 8, slot := 8, constantValue := 0 }, { name := "$assertionsDisabled", type := .boolean, accessFlags := 4120, slot := 9, constantValue := 0 }]
  methods := #[k15m0, k15m1]
  instanceTypes := #[]
  staticTypes := #[.double, .double, .double, .double, .double, .long, .long, .double, .double, .boolean]
  resolved := Array.replicate 460 none
  statics := none }

def pool16 : Array CpInfo := pool [(1, .methodref 2 3), (0, .class_ 4), (0, .nameAndType 5 6), (0, u "java/lang/Object"), (0, u "<init>"), (0, u "()V"), (0, .string 8), (0, u "machine"), (0, .methodref 10 11), (0, .class_ 12), (0, .nameAndType 13 14), (0, u "java/util/Objects"), (0, u "requireNonNull"), (0, u "(Ljava/lang/Object;Ljava/lang/String;)Ljava/lang/Object;"), (0, .methodref 16 17), (0, .class_ 18), (0, .nameAndType 19 20), (0, u "com/example/makespun/makespun/pool/Machine"), (0, u "getCores"), (0, u "()I"), (13, .fieldref 35 36), (0, .class_ 37), (0, .nameAndType 8 38), (0, u "com/example/makespun/makespun/pool/Slot"), (0, u "Lcom/example/makespun/makespun/pool/Machine;"), (0, .fieldref 35 40), (0, .nameAndType 41 42), (0, u "number"), (0, u "I"), (9, u "(Lcom/example/makespun/makespun/pool/Machine;I)V"), (6, u "equals"), (0, u "(Ljava/lang/Object;)Z")] 21

def k16c0 : Code := { maxStack := 6, maxLocals := 3, code := prog_69_method_1_code, exceptionTable := #[], attributes := #[] }
def k16m0 : Method := { name := "<init>", desc := "(Lcom/example/makespun/makespun/pool/Machine;I)V", sig := { parameters := [(.object "com/example/makespun/makespun/pool/Machine"), .int], returnType := none }, accessFlags := 1, code := some k16c0 }
def k16c1 : Code := { maxStack := 2, maxLocals := 3, code := prog_69_method_4_code, exceptionTable := #[], attributes := #[] }
def k16m1 : Method := { name := "equals", desc := "(Ljava/lang/Object;)Z", sig := { parameters := [(.object "java/lang/Object")], returnType := some .boolean }, accessFlags := 1, code := some k16c1 }
/-- com/example/makespun/makespun/pool/Slot -/
def k16 : Class := { plain "com/example/makespun/makespun/pool/Slot" (some 0) with
  accessFlags := 49
  interfaces := #[]
  cf := some (fileOf pool16 35 #[] #[{ accessFlags := 1, nameIndex := 5, descriptorIndex := 52, attributes := #[] }, { accessFlags := 1, nameIndex := 59, descriptorIndex := 60, attributes := #[] }] 49 2 #[] #[{ accessFlags := 18, nameIndex := 8, descriptorIndex := 38, attributes := #[] }, { accessFlags := 18, nameIndex := 41, descriptorIndex := 42, attributes := #[] }])
  fields := #[{ name := "machine", type := (.object "com/example/makespun/makespun/pool/Machine"), accessFlags := 18, slot := 0, constantValue := 0 }, { name := "number", type := .int, accessFlags := 18, slot := 1, constantValue := 0 }]
  methods := #[k16m0, k16m1]
  instanceTypes := #[(.object "com/example/makespun/makespun/pool/Machine"), .int]
  staticTypes := #[]
  resolved := Array.replicate 82 none
  statics := none }

def pool17 : Array CpInfo := pool [(1, .class_ 2), (0, u "java/lang/Integer"), (16, u "digits"), (0, u "[C"), (64, u "DigitOnes"), (0, u "[B"), (2, u "DigitTens"), (97, u "valueOf"), (0, u "(I)Ljava/lang/Integer;"), (0, .class_ 190), (0, u "java/lang/Integer$IntegerCache"), (0, .fieldref 189 192), (0, .nameAndType 193 194), (0, u "high"), (0, u "I"), (0, .fieldref 189 196), (0, .nameAndType 197 198), (0, u "cache"), (0, u "[Ljava/lang/Integer;"), (4, .class_ 204), (0, u "java/lang/Number"), (2, u "value"), (94, u "TYPE"), (0, u "Ljava/lang/Class;"), (0, .class_ 305), (0, u "java/lang/Comparable"), (0, .class_ 307), (0, u "java/lang/constant/Constable"), (0, .class_ 309), (0, u "java/lang/constant/ConstantDesc"), (0, u "MIN_VALUE"), (1, u "MAX_VALUE"), (3, u "SIZE"), (1, u "BYTES"), (1, u "serialVersionUID"), (0, u "J")] 131

def k17c0 : Code := { maxStack := 3, maxLocals := 1, code := jdk_33_method_22_code, exceptionTable := #[], attributes := #[] }
def k17m0 : Method := { name := "valueOf", desc := "(I)Ljava/lang/Integer;", sig := { parameters := [.int], returnType := some (.object "java/lang/Integer") }, accessFlags := 9, code := some k17c0 }
/-- java/lang/Integer -/
def k17 : Class := { plain "java/lang/Integer" (some 13) with
  accessFlags := 49
  interfaces := #[4, 6, 7]
  cf := some (fileOf pool17 1 #[.nestMembers #[189]] #[{ accessFlags := 9, nameIndex := 187, descriptorIndex := 188, attributes := #[] }] 49 203 #[304, 306, 308] #[{ accessFlags := 25, nameIndex := 310, descriptorIndex := 194, attributes := #[] }, { accessFlags := 25, nameIndex := 312, descriptorIndex := 194, attributes := #[] }, { accessFlags := 25, nameIndex := 302, descriptorIndex := 303, attributes := #[] }, { accessFlags := 24, nameIndex := 19, descriptorIndex := 20, attributes := #[] }, { accessFlags := 24, nameIndex := 89, descriptorIndex := 86, attributes := #[] }, { accessFlags := 24, nameIndex := 85, descriptorIndex := 86, attributes := #[] }, { accessFlags := 18, nameIndex := 207, descriptorIndex := 194, attributes := #[] }, { accessFlags := 25, nameIndex := 316, descriptorIndex := 194, attributes := #[] }, { accessFlags := 25, nameIndex := 318, descriptorIndex := 194, attributes := #[] }, { accessFlags := 26, nameIndex := 320, descriptorIndex := 321, attributes := #[] }])
  fields := #[{ name := "MIN_VALUE", type := .int, accessFlags := 25, slot := 0, constantValue := 0 }, { name := "MAX_VALUE", type := .int, accessFlags := 25, slot := 1, constantValue := 0 }, { name := "TYPE", type := (.object "java/lang/Class"), accessFlags := 25, slot := 2, constantValue := 0 }, { name := "digits", type := (.array .char), accessFlags := 24, slot := 3, constantValue := 0 }, { name := "DigitTens", type := (.array .byte), accessFlags := 24, slot := 4, constantValue := 0 }, { name := "DigitOnes", type := (.array .byte), accessFlags := 24, slot := 5, constantValue := 0 }, { name := "value", type := .int, accessFlags := 18, slot := 0, constantValue := 0 }, { name := "SIZE", type := .int, accessFlags := 25, slot := 6, constantValue := 0 }, { name := "BYTES", type := .int, accessFlags := 25, slot := 7, constantValue := 0 }, { name := "serialVersionUID", type := .long, accessFlags := 26, slot := 8, constantValue := 0 }]
  methods := #[k17m0]
  instanceTypes := #[.int]
  staticTypes := #[.int, .int, (.object "java/lang/Class"), (.array .char), (.array .byte), (.array .byte), .int, .int, .long]
  resolved := Array.replicate 453 none
  statics := none }

def pool18 : Array CpInfo := pool [(2, .class_ 4), (1, u "java/lang/Object"), (0, u "<init>"), (0, u "()V"), (0, .class_ 8), (0, u "java/lang/Integer"), (7, .class_ 18), (1, u "java/lang/Integer$IntegerCache"), (0, u "$assertionsDisabled"), (0, u "Z"), (26, u "high"), (0, u "I"), (8, u "archivedCache"), (0, u "[Ljava/lang/Integer;"), (12, u "cache"), (0, u "low")] 27

def k18m0 : Method := { name := "<init>", desc := "()V", sig := { parameters := [], returnType := none }, accessFlags := 2, code := none }
/-- java/lang/Integer$IntegerCache -/
def k18 : Class := { plain "java/lang/Integer$IntegerCache" (some 0) with
  accessFlags := 48
  interfaces := #[]
  cf := some (fileOf pool18 16 #[.nestHost 7] #[{ accessFlags := 2, nameIndex := 5, descriptorIndex := 6, attributes := #[] }] 48 2 #[] #[{ accessFlags := 24, nameIndex := 72, descriptorIndex := 48, attributes := #[] }, { accessFlags := 24, nameIndex := 47, descriptorIndex := 48, attributes := #[] }, { accessFlags := 24, nameIndex := 71, descriptorIndex := 58, attributes := #[] }, { accessFlags := 8, nameIndex := 57, descriptorIndex := 58, attributes := #[] }, { accessFlags := 4120, nameIndex := 19, descriptorIndex := 20, attributes := #[] }])
  fields := #[{ name := "low", type := .int, accessFlags := 24, slot := 0, constantValue := 0 }, { name := "high", type := .int, accessFlags := 24, slot := 1, constantValue := 0 }, { name := "cache", type := (.array (.object "java/lang/Integer")), accessFlags := 24, slot := 2, constantValue := 0 }, { name := "archivedCache", type := (.array (.object "java/lang/Integer")), accessFlags := 8, slot := 3, constantValue := 0 }, { name := "$assertionsDisabled", type := .boolean, accessFlags := 4120, slot := 4, constantValue := 0 }]
  methods := #[k18m0]
  instanceTypes := #[]
  staticTypes := #[.int, .int, (.array (.object "java/lang/Integer")), (.array (.object "java/lang/Integer")), .boolean]
  resolved := Array.replicate 100 none
  statics := some 2 }

def pool19 : Array CpInfo := pool [(9, u "<init>"), (6, .class_ 18), (1, u "java/lang/Object"), (0, u "()V"), (1, .class_ 23), (1, u "jdk/internal/util/ArraysSupport"), (0, u "LOG2_ARRAY_LONG_INDEX_SCALE"), (0, u "I"), (2, u "U"), (0, u "Ljdk/internal/misc/Unsafe;"), (8, u "BIG_ENDIAN"), (0, u "Z"), (8, u "LOG2_BYTE_BIT_SIZE"), (4, u "LOG2_ARRAY_INT_INDEX_SCALE"), (54, u "JLA"), (0, u "Ljdk/internal/access/JavaLangAccess;"), (11, u "LOG2_ARRAY_BOOLEAN_INDEX_SCALE"), (9, u "LOG2_ARRAY_BYTE_INDEX_SCALE"), (5, u "LOG2_ARRAY_CHAR_INDEX_SCALE"), (5, u "LOG2_ARRAY_SHORT_INDEX_SCALE"), (18, u "LOG2_ARRAY_FLOAT_INDEX_SCALE"), (24, u "LOG2_ARRAY_DOUBLE_INDEX_SCALE"), (89, u "T_BOOLEAN"), (2, u "T_CHAR"), (1, u "T_FLOAT"), (1, u "T_DOUBLE"), (1, u "T_BYTE"), (1, u "T_SHORT"), (1, u "T_INT"), (1, u "T_LONG"), (1, u "SOFT_MAX_ARRAY_LENGTH")] 83

def k19m0 : Method := { name := "<init>", desc := "()V", sig := { parameters := [], returnType := none }, accessFlags := 2, code := none }
/-- jdk/internal/util/ArraysSupport -/
def k19 : Class := { plain "jdk/internal/util/ArraysSupport" (some 0) with
  accessFlags := 33
  interfaces := #[]
  cf := some (fileOf pool19 21 #[] #[{ accessFlags := 2, nameIndex := 9, descriptorIndex := 19, attributes := #[] }] 33 16 #[] #[{ accessFlags := 24, nameIndex := 28, descriptorIndex := 29, attributes := #[] }, { accessFlags := 26, nameIndex := 38, descriptorIndex := 39, attributes := #[] }, { accessFlags := 25, nameIndex := 121, descriptorIndex := 25, attributes := #[] }, { accessFlags := 25, nameIndex := 131, descriptorIndex := 25, attributes := #[] }, { accessFlags := 25, nameIndex := 137, descriptorIndex := 25, attributes := #[] }, { accessFlags := 25, nameIndex := 143, descriptorIndex := 25, attributes := #[] }, { accessFlags := 25, nameIndex := 53, descriptorIndex := 25, attributes := #[] }, { accessFlags := 25, nameIndex := 24, descriptorIndex := 25, attributes := #[] }, { accessFlags := 25, nameIndex := 162, descriptorIndex := 25, attributes := #[] }, { accessFlags := 25, nameIndex := 187, descriptorIndex := 25, attributes := #[] }, { accessFlags := 26, nameIndex := 48, descriptorIndex := 25, attributes := #[] }, { accessFlags := 25, nameIndex := 277, descriptorIndex := 25, attributes := #[] }, { accessFlags := 25, nameIndex := 280, descriptorIndex := 25, attributes := #[] }, { accessFlags := 25, nameIndex := 282, descriptorIndex := 25, attributes := #[] }, { accessFlags := 25, nameIndex := 284, descriptorIndex := 25, attributes := #[] }, { accessFlags := 25, nameIndex := 286, descriptorIndex := 25, attributes := #[] }, { accessFlags := 25, nameIndex := 288, descriptorIndex := 25, attributes := #[] }, { accessFlags := 25, nameIndex := 290, descriptorIndex := 25, attributes := #[] }, { accessFlags := 25, nameIndex := 292, descriptorIndex := 25, attributes := #[] }, { accessFlags := 26, nameIndex := 108, descriptorIndex := 109, attributes := #[] }, { accessFlags := 25, nameIndex := 294, descriptorIndex := 25, attributes := #[] }])
  fields := #[{ name := "U", type := (.object "jdk/internal/misc/Unsafe"), accessFlags := 24, slot := 0, constantValue := 0 }, { name := "BIG_ENDIAN", type := .boolean, accessFlags := 26, slot := 1, constantValue := 0 }, { name := "LOG2_ARRAY_BOOLEAN_INDEX_SCALE", type := .int, accessFlags := 25, slot := 2, constantValue := 0 }, { name := "LOG2_ARRAY_BYTE_INDEX_SCALE", type := .int, accessFlags := 25, slot := 3, constantValue := 0 }, { name := "LOG2_ARRAY_CHAR_INDEX_SCALE", type := .int, accessFlags := 25, slot := 4, constantValue := 0 }, { name := "LOG2_ARRAY_SHORT_INDEX_SCALE", type := .int, accessFlags := 25, slot := 5, constantValue := 0 }, { name := "LOG2_ARRAY_INT_INDEX_SCALE", type := .int, accessFlags := 25, slot := 6, constantValue := 0 }, { name := "LOG2_ARRAY_LONG_INDEX_SCALE", type := .int, accessFlags := 25, slot := 7, constantValue := 0 }, { name := "LOG2_ARRAY_FLOAT_INDEX_SCALE", type := .int, accessFlags := 25, slot := 8, constantValue := 0 }, { name := "LOG2_ARRAY_DOUBLE_INDEX_SCALE", type := .int, accessFlags := 25, slot := 9, constantValue := 0 }, { name := "LOG2_BYTE_BIT_SIZE", type := .int, accessFlags := 26, slot := 10, constantValue := 0 }, { name := "T_BOOLEAN", type := .int, accessFlags := 25, slot := 11, constantValue := 0 }, { name := "T_CHAR", type := .int, accessFlags := 25, slot := 12, constantValue := 0 }, { name := "T_FLOAT", type := .int, accessFlags := 25, slot := 13, constantValue := 0 }, { name := "T_DOUBLE", type := .int, accessFlags := 25, slot := 14, constantValue := 0 }, { name := "T_BYTE", type := .int, accessFlags := 25, slot := 15, constantValue := 0 }, { name := "T_SHORT", type := .int, accessFlags := 25, slot := 16, constantValue := 0 }, { name := "T_INT", type := .int, accessFlags := 25, slot := 17, constantValue := 0 }, { name := "T_LONG", type := .int, accessFlags := 25, slot := 18, constantValue := 0 }, { name := "JLA", type := (.object "jdk/internal/access/JavaLangAccess"), accessFlags := 26, slot := 19, constantValue := 0 }, { name := "SOFT_MAX_ARRAY_LENGTH", type := .int, accessFlags := 25, slot := 20, constantValue := 0 }]
  methods := #[k19m0]
  instanceTypes := #[]
  staticTypes := #[(.object "jdk/internal/misc/Unsafe"), .boolean, .int, .int, .int, .int, .int, .int, .int, .int, .int, .int, .int, .int, .int, .int, .int, .int, .int, (.object "jdk/internal/access/JavaLangAccess"), .int]
  resolved := Array.replicate 378 none
  statics := some 3 }

def pool20 : Array CpInfo := pool [(2, .class_ 4), (1, u "java/lang/Object"), (0, u "<init>"), (0, u "()V"), (17, .class_ 26), (1, u "jdk/internal/util/Preconditions"), (28, .class_ 56), (0, u "jdk/internal/util/Preconditions$4"), (57, .class_ 115), (0, u "jdk/internal/util/Preconditions$1"), (7, u "SIOOBE_FORMATTER"), (0, u "Ljava/util/function/BiFunction;"), (0, .class_ 126), (0, u "jdk/internal/util/Preconditions$2"), (3, u "AIOOBE_FORMATTER"), (0, .class_ 132), (0, u "jdk/internal/util/Preconditions$3"), (3, u "IOOBE_FORMATTER")] 57

def k20m0 : Method := { name := "<init>", desc := "()V", sig := { parameters := [], returnType := none }, accessFlags := 1, code := none }
/-- jdk/internal/util/Preconditions -/
def k20 : Class := { plain "jdk/internal/util/Preconditions" (some 0) with
  accessFlags := 33
  interfaces := #[]
  cf := some (fileOf pool20 24 #[.nestMembers #[55, 131, 125, 114]] #[{ accessFlags := 1, nameIndex := 5, descriptorIndex := 6, attributes := #[] }] 33 2 #[] #[{ accessFlags := 25, nameIndex := 123, descriptorIndex := 124, attributes := #[] }, { accessFlags := 25, nameIndex := 130, descriptorIndex := 124, attributes := #[] }, { accessFlags := 25, nameIndex := 136, descriptorIndex := 124, attributes := #[] }])
  fields := #[{ name := "SIOOBE_FORMATTER", type := (.object "java/util/function/BiFunction"), accessFlags := 25, slot := 0, constantValue := 0 }, { name := "AIOOBE_FORMATTER", type := (.object "java/util/function/BiFunction"), accessFlags := 25, slot := 1, constantValue := 0 }, { name := "IOOBE_FORMATTER", type := (.object "java/util/function/BiFunction"), accessFlags := 25, slot := 2, constantValue := 0 }]
  methods := #[k20m0]
  instanceTypes := #[]
  staticTypes := #[(.object "java/util/function/BiFunction"), (.object "java/util/function/BiFunction"), (.object "java/util/function/BiFunction")]
  resolved := Array.replicate 194 none
  statics := some 4 }

def pool21 : Array CpInfo := pool [(1, u "java/lang/Cloneable"), (0, .class_ 1), (0, u "java/lang/Object"), (0, .class_ 3)] 3

/-- java/lang/Cloneable -/
def k21 : Class := { plain "java/lang/Cloneable" (some 0) with
  accessFlags := 1537
  interfaces := #[]
  cf := some (fileOf pool21 2 #[] #[] 1537 4 #[] #[])
  fields := #[]
  methods := #[]
  instanceTypes := #[]
  staticTypes := #[]
  resolved := Array.replicate 8 none
  statics := none }

/-- the primitive byte -/
def k22 : Class := { plain "byte" none with kind := .primitive 'B', accessFlags := 0x411 }
/-- [B -/
def k23 : Class := { plain "[B" (some 0) with kind := .array 22 .byte, interfaces := #[21, 3], accessFlags := 1041 }

/-- the primitive int -/
def k24 : Class := { plain "int" none with kind := .primitive 'I', accessFlags := 0x411 }
/-- [I -/
def k25 : Class := { plain "[I" (some 0) with kind := .array 24 .int, interfaces := #[21, 3], accessFlags := 1041 }

/-- [Ljava/lang/Integer; -/
def k26 : Class := { plain "[Ljava/lang/Integer;" (some 0) with kind := .array 17 (.object "java/lang/Integer"), interfaces := #[21, 3], accessFlags := 1041 }

def heap : Heap := #[{ cls := 8, slots := #[.long 0, .int 1, .null, .int 0, .null, .int 0, .int 0], vm := .statics 8 },
  { cls := 12, slots := #[.null, .null, .ref 262, .ref 263, .null], vm := .statics 12 },
  { cls := 18, slots := #[.int 0, .int 127, .ref 5, .null, .int 0], vm := .statics 18 },
  { cls := 19, slots := #[.null, .int 0, .int 0, .int 0, .int 0, .int 0, .int 0, .int 3, .int 0, .int 0, .int 0, .int 0, .int 0, .int 0, .int 0, .int 0, .int 0, .int 0, .int 0, .null, .int 0], vm := .statics 19 },
  { cls := 20, slots := #[.null, .null, .null], vm := .statics 20 },
  { cls := 26, slots := #[.ref 6, .ref 7, .ref 8, .ref 9, .ref 10, .ref 11, .ref 12, .ref 13, .ref 14, .ref 15, .ref 16, .ref 17, .ref 18, .ref 19, .ref 20, .ref 21, .ref 22, .ref 23, .ref 24, .ref 25, .ref 26, .ref 27, .ref 28, .ref 29, .ref 30, .ref 31, .ref 32, .ref 33, .ref 34, .ref 35, .ref 36, .ref 37, .ref 38, .ref 39, .ref 40, .ref 41, .ref 42, .ref 43, .ref 44, .ref 45, .ref 46, .ref 47, .ref 48, .ref 49, .ref 50, .ref 51, .ref 52, .ref 53, .ref 54, .ref 55, .ref 56, .ref 57, .ref 58, .ref 59, .ref 60, .ref 61, .ref 62, .ref 63, .ref 64, .ref 65, .ref 66, .ref 67, .ref 68, .ref 69, .ref 70, .ref 71, .ref 72, .ref 73, .ref 74, .ref 75, .ref 76, .ref 77, .ref 78, .ref 79, .ref 80, .ref 81, .ref 82, .ref 83, .ref 84, .ref 85, .ref 86, .ref 87, .ref 88, .ref 89, .ref 90, .ref 91, .ref 92, .ref 93, .ref 94, .ref 95, .ref 96, .ref 97, .ref 98, .ref 99, .ref 100, .ref 101, .ref 102, .ref 103, .ref 104, .ref 105, .ref 106, .ref 107, .ref 108, .ref 109, .ref 110, .ref 111, .ref 112, .ref 113, .ref 114, .ref 115, .ref 116, .ref 117, .ref 118, .ref 119, .ref 120, .ref 121, .ref 122, .ref 123, .ref 124, .ref 125, .ref 126, .ref 127, .ref 128, .ref 129, .ref 130, .ref 131, .ref 132, .ref 133, .ref 134, .ref 135, .ref 136, .ref 137, .ref 138, .ref 139, .ref 140, .ref 141, .ref 142, .ref 143, .ref 144, .ref 145, .ref 146, .ref 147, .ref 148, .ref 149, .ref 150, .ref 151, .ref 152, .ref 153, .ref 154, .ref 155, .ref 156, .ref 157, .ref 158, .ref 159, .ref 160, .ref 161, .ref 162, .ref 163, .ref 164, .ref 165, .ref 166, .ref 167, .ref 168, .ref 169, .ref 170, .ref 171, .ref 172, .ref 173, .ref 174, .ref 175, .ref 176, .ref 177, .ref 178, .ref 179, .ref 180, .ref 181, .ref 182, .ref 183, .ref 184, .ref 185, .ref 186, .ref 187, .ref 188, .ref 189, .ref 190, .ref 191, .ref 192, .ref 193, .ref 194, .ref 195, .ref 196, .ref 197, .ref 198, .ref 199, .ref 200, .ref 201, .ref 202, .ref 203, .ref 204, .ref 205, .ref 206, .ref 207, .ref 208, .ref 209, .ref 210, .ref 211, .ref 212, .ref 213, .ref 214, .ref 215, .ref 216, .ref 217, .ref 218, .ref 219, .ref 220, .ref 221, .ref 222, .ref 223, .ref 224, .ref 225, .ref 226, .ref 227, .ref 228, .ref 229, .ref 230, .ref 231, .ref 232, .ref 233, .ref 234, .ref 235, .ref 236, .ref 237, .ref 238, .ref 239, .ref 240, .ref 241, .ref 242, .ref 243, .ref 244, .ref 245, .ref 246, .ref 247, .ref 248, .ref 249, .ref 250, .ref 251, .ref 252, .ref 253, .ref 254, .ref 255, .ref 256, .ref 257, .ref 258, .ref 259, .ref 260, .ref 261], vm := .none },
  { cls := 17, slots := #[.int (-128)], vm := .none },
  { cls := 17, slots := #[.int (-127)], vm := .none },
  { cls := 17, slots := #[.int (-126)], vm := .none },
  { cls := 17, slots := #[.int (-125)], vm := .none },
  { cls := 17, slots := #[.int (-124)], vm := .none },
  { cls := 17, slots := #[.int (-123)], vm := .none },
  { cls := 17, slots := #[.int (-122)], vm := .none },
  { cls := 17, slots := #[.int (-121)], vm := .none },
  { cls := 17, slots := #[.int (-120)], vm := .none },
  { cls := 17, slots := #[.int (-119)], vm := .none },
  { cls := 17, slots := #[.int (-118)], vm := .none },
  { cls := 17, slots := #[.int (-117)], vm := .none },
  { cls := 17, slots := #[.int (-116)], vm := .none },
  { cls := 17, slots := #[.int (-115)], vm := .none },
  { cls := 17, slots := #[.int (-114)], vm := .none },
  { cls := 17, slots := #[.int (-113)], vm := .none },
  { cls := 17, slots := #[.int (-112)], vm := .none },
  { cls := 17, slots := #[.int (-111)], vm := .none },
  { cls := 17, slots := #[.int (-110)], vm := .none },
  { cls := 17, slots := #[.int (-109)], vm := .none },
  { cls := 17, slots := #[.int (-108)], vm := .none },
  { cls := 17, slots := #[.int (-107)], vm := .none },
  { cls := 17, slots := #[.int (-106)], vm := .none },
  { cls := 17, slots := #[.int (-105)], vm := .none },
  { cls := 17, slots := #[.int (-104)], vm := .none },
  { cls := 17, slots := #[.int (-103)], vm := .none },
  { cls := 17, slots := #[.int (-102)], vm := .none },
  { cls := 17, slots := #[.int (-101)], vm := .none },
  { cls := 17, slots := #[.int (-100)], vm := .none },
  { cls := 17, slots := #[.int (-99)], vm := .none },
  { cls := 17, slots := #[.int (-98)], vm := .none },
  { cls := 17, slots := #[.int (-97)], vm := .none },
  { cls := 17, slots := #[.int (-96)], vm := .none },
  { cls := 17, slots := #[.int (-95)], vm := .none },
  { cls := 17, slots := #[.int (-94)], vm := .none },
  { cls := 17, slots := #[.int (-93)], vm := .none },
  { cls := 17, slots := #[.int (-92)], vm := .none },
  { cls := 17, slots := #[.int (-91)], vm := .none },
  { cls := 17, slots := #[.int (-90)], vm := .none },
  { cls := 17, slots := #[.int (-89)], vm := .none },
  { cls := 17, slots := #[.int (-88)], vm := .none },
  { cls := 17, slots := #[.int (-87)], vm := .none },
  { cls := 17, slots := #[.int (-86)], vm := .none },
  { cls := 17, slots := #[.int (-85)], vm := .none },
  { cls := 17, slots := #[.int (-84)], vm := .none },
  { cls := 17, slots := #[.int (-83)], vm := .none },
  { cls := 17, slots := #[.int (-82)], vm := .none },
  { cls := 17, slots := #[.int (-81)], vm := .none },
  { cls := 17, slots := #[.int (-80)], vm := .none },
  { cls := 17, slots := #[.int (-79)], vm := .none },
  { cls := 17, slots := #[.int (-78)], vm := .none },
  { cls := 17, slots := #[.int (-77)], vm := .none },
  { cls := 17, slots := #[.int (-76)], vm := .none },
  { cls := 17, slots := #[.int (-75)], vm := .none },
  { cls := 17, slots := #[.int (-74)], vm := .none },
  { cls := 17, slots := #[.int (-73)], vm := .none },
  { cls := 17, slots := #[.int (-72)], vm := .none },
  { cls := 17, slots := #[.int (-71)], vm := .none },
  { cls := 17, slots := #[.int (-70)], vm := .none },
  { cls := 17, slots := #[.int (-69)], vm := .none },
  { cls := 17, slots := #[.int (-68)], vm := .none },
  { cls := 17, slots := #[.int (-67)], vm := .none },
  { cls := 17, slots := #[.int (-66)], vm := .none },
  { cls := 17, slots := #[.int (-65)], vm := .none },
  { cls := 17, slots := #[.int (-64)], vm := .none },
  { cls := 17, slots := #[.int (-63)], vm := .none },
  { cls := 17, slots := #[.int (-62)], vm := .none },
  { cls := 17, slots := #[.int (-61)], vm := .none },
  { cls := 17, slots := #[.int (-60)], vm := .none },
  { cls := 17, slots := #[.int (-59)], vm := .none },
  { cls := 17, slots := #[.int (-58)], vm := .none },
  { cls := 17, slots := #[.int (-57)], vm := .none },
  { cls := 17, slots := #[.int (-56)], vm := .none },
  { cls := 17, slots := #[.int (-55)], vm := .none },
  { cls := 17, slots := #[.int (-54)], vm := .none },
  { cls := 17, slots := #[.int (-53)], vm := .none },
  { cls := 17, slots := #[.int (-52)], vm := .none },
  { cls := 17, slots := #[.int (-51)], vm := .none },
  { cls := 17, slots := #[.int (-50)], vm := .none },
  { cls := 17, slots := #[.int (-49)], vm := .none },
  { cls := 17, slots := #[.int (-48)], vm := .none },
  { cls := 17, slots := #[.int (-47)], vm := .none },
  { cls := 17, slots := #[.int (-46)], vm := .none },
  { cls := 17, slots := #[.int (-45)], vm := .none },
  { cls := 17, slots := #[.int (-44)], vm := .none },
  { cls := 17, slots := #[.int (-43)], vm := .none },
  { cls := 17, slots := #[.int (-42)], vm := .none },
  { cls := 17, slots := #[.int (-41)], vm := .none },
  { cls := 17, slots := #[.int (-40)], vm := .none },
  { cls := 17, slots := #[.int (-39)], vm := .none },
  { cls := 17, slots := #[.int (-38)], vm := .none },
  { cls := 17, slots := #[.int (-37)], vm := .none },
  { cls := 17, slots := #[.int (-36)], vm := .none },
  { cls := 17, slots := #[.int (-35)], vm := .none },
  { cls := 17, slots := #[.int (-34)], vm := .none },
  { cls := 17, slots := #[.int (-33)], vm := .none },
  { cls := 17, slots := #[.int (-32)], vm := .none },
  { cls := 17, slots := #[.int (-31)], vm := .none },
  { cls := 17, slots := #[.int (-30)], vm := .none },
  { cls := 17, slots := #[.int (-29)], vm := .none },
  { cls := 17, slots := #[.int (-28)], vm := .none },
  { cls := 17, slots := #[.int (-27)], vm := .none },
  { cls := 17, slots := #[.int (-26)], vm := .none },
  { cls := 17, slots := #[.int (-25)], vm := .none },
  { cls := 17, slots := #[.int (-24)], vm := .none },
  { cls := 17, slots := #[.int (-23)], vm := .none },
  { cls := 17, slots := #[.int (-22)], vm := .none },
  { cls := 17, slots := #[.int (-21)], vm := .none },
  { cls := 17, slots := #[.int (-20)], vm := .none },
  { cls := 17, slots := #[.int (-19)], vm := .none },
  { cls := 17, slots := #[.int (-18)], vm := .none },
  { cls := 17, slots := #[.int (-17)], vm := .none },
  { cls := 17, slots := #[.int (-16)], vm := .none },
  { cls := 17, slots := #[.int (-15)], vm := .none },
  { cls := 17, slots := #[.int (-14)], vm := .none },
  { cls := 17, slots := #[.int (-13)], vm := .none },
  { cls := 17, slots := #[.int (-12)], vm := .none },
  { cls := 17, slots := #[.int (-11)], vm := .none },
  { cls := 17, slots := #[.int (-10)], vm := .none },
  { cls := 17, slots := #[.int (-9)], vm := .none },
  { cls := 17, slots := #[.int (-8)], vm := .none },
  { cls := 17, slots := #[.int (-7)], vm := .none },
  { cls := 17, slots := #[.int (-6)], vm := .none },
  { cls := 17, slots := #[.int (-5)], vm := .none },
  { cls := 17, slots := #[.int (-4)], vm := .none },
  { cls := 17, slots := #[.int (-3)], vm := .none },
  { cls := 17, slots := #[.int (-2)], vm := .none },
  { cls := 17, slots := #[.int (-1)], vm := .none },
  { cls := 17, slots := #[.int 0], vm := .none },
  { cls := 17, slots := #[.int 1], vm := .none },
  { cls := 17, slots := #[.int 2], vm := .none },
  { cls := 17, slots := #[.int 3], vm := .none },
  { cls := 17, slots := #[.int 4], vm := .none },
  { cls := 17, slots := #[.int 5], vm := .none },
  { cls := 17, slots := #[.int 6], vm := .none },
  { cls := 17, slots := #[.int 7], vm := .none },
  { cls := 17, slots := #[.int 8], vm := .none },
  { cls := 17, slots := #[.int 9], vm := .none },
  { cls := 17, slots := #[.int 10], vm := .none },
  { cls := 17, slots := #[.int 11], vm := .none },
  { cls := 17, slots := #[.int 12], vm := .none },
  { cls := 17, slots := #[.int 13], vm := .none },
  { cls := 17, slots := #[.int 14], vm := .none },
  { cls := 17, slots := #[.int 15], vm := .none },
  { cls := 17, slots := #[.int 16], vm := .none },
  { cls := 17, slots := #[.int 17], vm := .none },
  { cls := 17, slots := #[.int 18], vm := .none },
  { cls := 17, slots := #[.int 19], vm := .none },
  { cls := 17, slots := #[.int 20], vm := .none },
  { cls := 17, slots := #[.int 21], vm := .none },
  { cls := 17, slots := #[.int 22], vm := .none },
  { cls := 17, slots := #[.int 23], vm := .none },
  { cls := 17, slots := #[.int 24], vm := .none },
  { cls := 17, slots := #[.int 25], vm := .none },
  { cls := 17, slots := #[.int 26], vm := .none },
  { cls := 17, slots := #[.int 27], vm := .none },
  { cls := 17, slots := #[.int 28], vm := .none },
  { cls := 17, slots := #[.int 29], vm := .none },
  { cls := 17, slots := #[.int 30], vm := .none },
  { cls := 17, slots := #[.int 31], vm := .none },
  { cls := 17, slots := #[.int 32], vm := .none },
  { cls := 17, slots := #[.int 33], vm := .none },
  { cls := 17, slots := #[.int 34], vm := .none },
  { cls := 17, slots := #[.int 35], vm := .none },
  { cls := 17, slots := #[.int 36], vm := .none },
  { cls := 17, slots := #[.int 37], vm := .none },
  { cls := 17, slots := #[.int 38], vm := .none },
  { cls := 17, slots := #[.int 39], vm := .none },
  { cls := 17, slots := #[.int 40], vm := .none },
  { cls := 17, slots := #[.int 41], vm := .none },
  { cls := 17, slots := #[.int 42], vm := .none },
  { cls := 17, slots := #[.int 43], vm := .none },
  { cls := 17, slots := #[.int 44], vm := .none },
  { cls := 17, slots := #[.int 45], vm := .none },
  { cls := 17, slots := #[.int 46], vm := .none },
  { cls := 17, slots := #[.int 47], vm := .none },
  { cls := 17, slots := #[.int 48], vm := .none },
  { cls := 17, slots := #[.int 49], vm := .none },
  { cls := 17, slots := #[.int 50], vm := .none },
  { cls := 17, slots := #[.int 51], vm := .none },
  { cls := 17, slots := #[.int 52], vm := .none },
  { cls := 17, slots := #[.int 53], vm := .none },
  { cls := 17, slots := #[.int 54], vm := .none },
  { cls := 17, slots := #[.int 55], vm := .none },
  { cls := 17, slots := #[.int 56], vm := .none },
  { cls := 17, slots := #[.int 57], vm := .none },
  { cls := 17, slots := #[.int 58], vm := .none },
  { cls := 17, slots := #[.int 59], vm := .none },
  { cls := 17, slots := #[.int 60], vm := .none },
  { cls := 17, slots := #[.int 61], vm := .none },
  { cls := 17, slots := #[.int 62], vm := .none },
  { cls := 17, slots := #[.int 63], vm := .none },
  { cls := 17, slots := #[.int 64], vm := .none },
  { cls := 17, slots := #[.int 65], vm := .none },
  { cls := 17, slots := #[.int 66], vm := .none },
  { cls := 17, slots := #[.int 67], vm := .none },
  { cls := 17, slots := #[.int 68], vm := .none },
  { cls := 17, slots := #[.int 69], vm := .none },
  { cls := 17, slots := #[.int 70], vm := .none },
  { cls := 17, slots := #[.int 71], vm := .none },
  { cls := 17, slots := #[.int 72], vm := .none },
  { cls := 17, slots := #[.int 73], vm := .none },
  { cls := 17, slots := #[.int 74], vm := .none },
  { cls := 17, slots := #[.int 75], vm := .none },
  { cls := 17, slots := #[.int 76], vm := .none },
  { cls := 17, slots := #[.int 77], vm := .none },
  { cls := 17, slots := #[.int 78], vm := .none },
  { cls := 17, slots := #[.int 79], vm := .none },
  { cls := 17, slots := #[.int 80], vm := .none },
  { cls := 17, slots := #[.int 81], vm := .none },
  { cls := 17, slots := #[.int 82], vm := .none },
  { cls := 17, slots := #[.int 83], vm := .none },
  { cls := 17, slots := #[.int 84], vm := .none },
  { cls := 17, slots := #[.int 85], vm := .none },
  { cls := 17, slots := #[.int 86], vm := .none },
  { cls := 17, slots := #[.int 87], vm := .none },
  { cls := 17, slots := #[.int 88], vm := .none },
  { cls := 17, slots := #[.int 89], vm := .none },
  { cls := 17, slots := #[.int 90], vm := .none },
  { cls := 17, slots := #[.int 91], vm := .none },
  { cls := 17, slots := #[.int 92], vm := .none },
  { cls := 17, slots := #[.int 93], vm := .none },
  { cls := 17, slots := #[.int 94], vm := .none },
  { cls := 17, slots := #[.int 95], vm := .none },
  { cls := 17, slots := #[.int 96], vm := .none },
  { cls := 17, slots := #[.int 97], vm := .none },
  { cls := 17, slots := #[.int 98], vm := .none },
  { cls := 17, slots := #[.int 99], vm := .none },
  { cls := 17, slots := #[.int 100], vm := .none },
  { cls := 17, slots := #[.int 101], vm := .none },
  { cls := 17, slots := #[.int 102], vm := .none },
  { cls := 17, slots := #[.int 103], vm := .none },
  { cls := 17, slots := #[.int 104], vm := .none },
  { cls := 17, slots := #[.int 105], vm := .none },
  { cls := 17, slots := #[.int 106], vm := .none },
  { cls := 17, slots := #[.int 107], vm := .none },
  { cls := 17, slots := #[.int 108], vm := .none },
  { cls := 17, slots := #[.int 109], vm := .none },
  { cls := 17, slots := #[.int 110], vm := .none },
  { cls := 17, slots := #[.int 111], vm := .none },
  { cls := 17, slots := #[.int 112], vm := .none },
  { cls := 17, slots := #[.int 113], vm := .none },
  { cls := 17, slots := #[.int 114], vm := .none },
  { cls := 17, slots := #[.int 115], vm := .none },
  { cls := 17, slots := #[.int 116], vm := .none },
  { cls := 17, slots := #[.int 117], vm := .none },
  { cls := 17, slots := #[.int 118], vm := .none },
  { cls := 17, slots := #[.int 119], vm := .none },
  { cls := 17, slots := #[.int 120], vm := .none },
  { cls := 17, slots := #[.int 121], vm := .none },
  { cls := 17, slots := #[.int 122], vm := .none },
  { cls := 17, slots := #[.int 123], vm := .none },
  { cls := 17, slots := #[.int 124], vm := .none },
  { cls := 17, slots := #[.int 125], vm := .none },
  { cls := 17, slots := #[.int 126], vm := .none },
  { cls := 17, slots := #[.int 127], vm := .none },
  { cls := 12, slots := #[], vm := .none },
  { cls := 25, slots := #[.int 1207963663, .int 1207963663, .int 1207963663, .int 1207963663, .int 1207963663, .int 1207963663, .int 1207963663, .int 1207963663, .int 1207963663, .int 1476411407, .int 1342193679, .int 1476411407, .int 1610629135, .int 1342193679, .int 1207963663, .int 1207963663, .int 1207963663, .int 1207963663, .int 1207963663, .int 1207963663, .int 1207963663, .int 1207963663, .int 1207963663, .int 1207963663, .int 1207963663, .int 1207963663, .int 1207963663, .int 1207963663, .int 1342193679, .int 1342193679, .int 1342193679, .int 1476411407, .int 1610629132, .int 1744830488, .int 1744830488, .int 671088664, .int 671113242, .int 671088664, .int 1744830488, .int 1744830488, .int (-402653163), .int (-402653162), .int 1744830488, .int 536870937, .int 939524120, .int 536870932, .int 939524120, .int 939524120, .int 402667017, .int 402667017, .int 402667017, .int 402667017, .int 402667017, .int 402667017, .int 402667017, .int 402667017, .int 402667017, .int 402667017, .int 939524120, .int 1744830488, .int (-402653159), .int 1744830489, .int (-402653159), .int 1744830488, .int 1744830488, .int 8552417, .int 8552417, .int 8552417, .int 8552417, .int 8552417, .int 8552417, .int 8552417, .int 8552417, .int 8552417, .int 8552417, .int 8552417, .int 8552417, .int 8552417, .int 8552417, .int 8552417, .int 8552417, .int 8552417, .int 8552417, .int 8552417, .int 8552417, .int 8552417, .int 8552417, .int 8552417, .int 8552417, .int 8552417, .int 8552417, .int (-402653163), .int 1744830488, .int (-402653162), .int 1744830491, .int 1744850967, .int 1744830491, .int 8486882, .int 8486882, .int 8486882, .int 8486882, .int 8486882, .int 8486882, .int 8486882, .int 8486882, .int 8486882, .int 8486882, .int 8486882, .int 8486882, .int 8486882, .int 8486882, .int 8486882, .int 8486882, .int 8486882, .int 8486882, .int 8486882, .int 8486882, .int 8486882, .int 8486882, .int 8486882, .int 8486882, .int 8486882, .int 8486882, .int (-402653163), .int 1744830489, .int (-402653162), .int 1744830489, .int 1207963663, .int 1207963663, .int 1207963663, .int 1207963663, .int 1207963663, .int 1207963663, .int 1342181391, .int 1207963663, .int 1207963663, .int 1207963663, .int 1207963663, .int 1207963663, .int 1207963663, .int 1207963663, .int 1207963663, .int 1207963663, .int 1207963663, .int 1207963663, .int 1207963663, .int 1207963663, .int 1207963663, .int 1207963663, .int 1207963663, .int 1207963663, .int 1207963663, .int 1207963663, .int 1207963663, .int 1207963663, .int 1207963663, .int 1207963663, .int 1207963663, .int 1207963663, .int 1207963663, .int 939524108, .int 1744830488, .int 671113242, .int 671113242, .int 671113242, .int 671113242, .int 1744830492, .int 1744830488, .int 1744830491, .int 1744830492, .int 28677, .int (-402653155), .int 1744830489, .int 1207963664, .int 1744830492, .int 1744830491, .int 671088668, .int 671088665, .int 402654731, .int 402654731, .int 1744830491, .int 134049794, .int 1744830488, .int 1744830488, .int 1744830491, .int 402654475, .int 28677, .int (-402653154), .int 1744832523, .int 1744832523, .int 1744832523, .int 1744830488, .int 8548353, .int 8548353, .int 8548353, .int 8548353, .int 8548353, .int 8548353, .int 8548353, .int 8548353, .int 8548353, .int 8548353, .int 8548353, .int 8548353, .int 8548353, .int 8548353, .int 8548353, .int 8548353, .int 8548353, .int 8548353, .int 8548353, .int 8548353, .int 8548353, .int 8548353, .int 8548353, .int 1744830489, .int 8548353, .int 8548353, .int 8548353, .int 8548353, .int 8548353, .int 8548353, .int 8548353, .int 134049794, .int 8482818, .int 8482818, .int 8482818, .int 8482818, .int 8482818, .int 8482818, .int 8482818, .int 8482818, .int 8482818, .int 8482818, .int 8482818, .int 8482818, .int 8482818, .int 8482818, .int 8482818, .int 8482818, .int 8482818, .int 8482818, .int 8482818, .int 8482818, .int 8482818, .int 8482818, .int 8482818, .int 1744830489, .int 8482818, .int 8482818, .int 8482818, .int 8482818, .int 8482818, .int 8482818, .int 8482818, .int 102592514], vm := .none }]
def classes : Array Class := #[k0, k1, k2, k3, k4, k5, k6, k7, k8, k9, k10, k11, k12, k13, k14, k15, k16, k17, k18, k19, k20, k21, k22, k23, k24, k25, k26]
def interned : List (Array UInt16 × Addr) := []
def slotsUsed : Nat := 809
def theMethod : MethodId := ⟨1, 1⟩
def args0 : Array Value := #[.int 1, .int 2, .int 3, .int 4, .int 5]
def aboutOver (below : List Frame) : State where
  vm := { classes := classes, interned := interned.toArray }
  heap := heap
  slotsUsed := slotsUsed
  threads := #[{ frames := .invoking theMethod args0 :: below }]
def below0 : List Frame := [.native { method := ⟨0, 0⟩, args := #[] }]
def about1 : State := aboutOver below0
def p0 : Program := .bare "" "" ""
def e0 : Env := launch0.env 0 0 0
theorem w_frames : about1.frames = Frame.invoking theMethod args0 :: below0 := rfl
set_option maxRecDepth 65536 in
theorem w_args : argsFit about1.vm theMethod args0 = true := by decide +kernel
set_option maxRecDepth 65536 in
theorem w_heap : heapFits about1 = true := by decide +kernel
set_option maxRecDepth 65536 in
theorem w_runnable : about1.curStatus? = some .runnable := by decide +kernel
set_option maxRecDepth 65536 in
theorem w_alone : about1.alone = true := by decide +kernel
set_option maxRecDepth 65536 in
theorem w_named : about1.methodNamed? x = some theMethod := by decide +kernel
set_option maxRecDepth 65536 in
theorem w_hears : about1.hears theMethod below0 = true := by decide +kernel
set_option maxRecDepth 65536 in
theorem w_ripe : about1.ripe theMethod args0 below0 = true := by decide +kernel
theorem w_running : about1.status = .running := rfl
set_option maxRecDepth 65536 in
theorem w_room : about1.hasRoom e0.platform room_1 = true :=
  launch0.hasRoom_least _ room_1 (by decide +kernel) (by decide +kernel) (by decide +kernel) (by decide +kernel) (by decide +kernel) (by decide +kernel)
theorem allAtoms_all (ts : List Jvm.Cond) (a : Array Jvm.Value) (st : Jvm.State) : (allAtoms ts).before a st = ts.all (fun c => c.before a st) := by
  induction ts with
  | nil => rfl
  | cons c t ih =>
    show (Jvm.Cond.and c (allAtoms t)).before a st = _
    rw [Jvm.Cond.before_and, ih, List.all_cons]
def words1 : List Jvm.Cond := Jvm.Cond.code x code maxLocals ret :: tables_1
/-- a 'code' word, met by the world's own term for the bytes: nothing is compared byte by byte -/
theorem code_word {y : MethodName} {bytes : ByteArray} {mx : Nat} {rt : Option FieldType} {a : Array Value} {s : State} {m : MethodId} {meth : Method} {c : Code} (h1 : s.methodNamed? y = some m) (h2 : s.vm.method? m = some meth) (h3 : meth.code = some c) (h4 : c.code = bytes)
    (h5 : (c.maxLocals == mx && c.exceptionTable.isEmpty && decide (c.maxStack ≤ mostOperands) && decide (meth.sig.returnType = rt) && !meth.locks && decide (parseMethodDescriptor y.desc = some meth.sig)) = true) : (Jvm.Cond.code y bytes mx rt).before a s = true := by
  simp only [Bool.and_eq_true, beq_iff_eq, Bool.not_eq_true', decide_eq_true_eq] at h5
  obtain ⟨⟨⟨⟨⟨g1, g2⟩, g3⟩, g4⟩, g5⟩, g6⟩ := h5
  simp [Cond.before, Cond.holds, Cond.value, h1, h2, h3, h4, g1, g2, g3, g4, g5, g6]
def isCode : Jvm.Cond → Bool
  | .code _ _ _ _ => true
  | _ => false
theorem all_split {L : List Jvm.Cond} {P : Jvm.Cond → Bool} (h1 : L.all (fun c => isCode c || P c) = true) (h2 : ∀ c ∈ L.filter isCode, P c = true) : L.all P = true := by
  refine List.all_eq_true.mpr fun c hc => ?_
  have h := List.all_eq_true.mp h1 c hc
  rcases Bool.eq_false_or_eq_true (isCode c) with hi | hi
  · exact h2 c (List.mem_filter.mpr ⟨hc, hi⟩)
  · simpa [hi] using h
set_option maxRecDepth 65536 in
theorem w_c0 : (Jvm.Cond.code x code maxLocals ret).before args0 about1 = true := code_word (m := ⟨1, 1⟩) (meth := k1m1) (c := k1c1) (by decide +kernel) rfl rfl rfl (by decide +kernel)
set_option maxRecDepth 65536 in
theorem w_c1 : (Jvm.Cond.code ({ cls := "com/example/makespun/makespun/pool/Machine", name := "<init>", desc := "(Ljava/lang/String;DIDJ)V" } : Jvm.MethodName) prog_66_method_1_code (9 : Nat) (Option.none : Option Jvm.ClassFile.FieldType)).before args0 about1 = true := code_word (m := ⟨2, 0⟩) (meth := k2m0) (c := k2c0) (by decide +kernel) rfl rfl rfl (by decide +kernel)
set_option maxRecDepth 65536 in
theorem w_c2 : (Jvm.Cond.code ({ cls := "java/lang/Object", name := "<init>", desc := "()V" } : Jvm.MethodName) object_method_1_code (1 : Nat) (Option.none : Option Jvm.ClassFile.FieldType)).before args0 about1 = true := code_word (m := ⟨0, 0⟩) (meth := k0m0) (c := k0c0) (by decide +kernel) rfl rfl rfl (by decide +kernel)
set_option maxRecDepth 65536 in
theorem w_c3 : (Jvm.Cond.code ({ cls := "com/example/makespun/makespun/pool/Machine", name := "checkAttributes", desc := "(Ljava/lang/String;Ljava/lang/String;DID)V" } : Jvm.MethodName) prog_66_method_9_code (7 : Nat) (Option.none : Option Jvm.ClassFile.FieldType)).before args0 about1 = true := code_word (m := ⟨2, 2⟩) (meth := k2m2) (c := k2c2) (by decide +kernel) rfl rfl rfl (by decide +kernel)
set_option maxRecDepth 65536 in
theorem w_c4 : (Jvm.Cond.code ({ cls := "java/util/Objects", name := "requireNonNull", desc := "(Ljava/lang/Object;Ljava/lang/String;)Ljava/lang/Object;" } : Jvm.MethodName) jdk_31_method_11_code (2 : Nat) (Option.some (Jvm.ClassFile.FieldType.object "java/lang/Object"))).before args0 about1 = true := code_word (m := ⟨9, 1⟩) (meth := k9m1) (c := k9c1) (by decide +kernel) rfl rfl rfl (by decide +kernel)
set_option maxRecDepth 65536 in
theorem w_c5 : (Jvm.Cond.code ({ cls := "java/lang/String", name := "isBlank", desc := "()Z" } : Jvm.MethodName) jdk_42_method_117_code (1 : Nat) (Option.some Jvm.ClassFile.FieldType.boolean)).before args0 about1 = true := code_word (m := ⟨8, 2⟩) (meth := k8m2) (c := k8c2) (by decide +kernel) rfl rfl rfl (by decide +kernel)
set_option maxRecDepth 65536 in
theorem w_c6 : (Jvm.Cond.code ({ cls := "java/lang/String", name := "indexOfNonWhitespace", desc := "()I" } : Jvm.MethodName) jdk_42_method_120_code (1 : Nat) (Option.some Jvm.ClassFile.FieldType.int)).before args0 about1 = true := code_word (m := ⟨8, 3⟩) (meth := k8m3) (c := k8c3) (by decide +kernel) rfl rfl rfl (by decide +kernel)
set_option maxRecDepth 65536 in
theorem w_c7 : (Jvm.Cond.code ({ cls := "java/lang/String", name := "isLatin1", desc := "()Z" } : Jvm.MethodName) jdk_42_method_154_code (1 : Nat) (Option.some Jvm.ClassFile.FieldType.boolean)).before args0 about1 = true := code_word (m := ⟨8, 5⟩) (meth := k8m5) (c := k8c5) (by decide +kernel) rfl rfl rfl (by decide +kernel)
set_option maxRecDepth 65536 in
theorem w_c8 : (Jvm.Cond.code ({ cls := "java/lang/StringLatin1", name := "indexOfNonWhitespace", desc := "([B)I" } : Jvm.MethodName) jdk_43_method_37_code (4 : Nat) (Option.some Jvm.ClassFile.FieldType.int)).before args0 about1 = true := code_word (m := ⟨10, 1⟩) (meth := k10m1) (c := k10c1) (by decide +kernel) rfl rfl rfl (by decide +kernel)
set_option maxRecDepth 65536 in
theorem w_c9 : (Jvm.Cond.code ({ cls := "java/lang/StringLatin1", name := "getChar", desc := "([BI)C" } : Jvm.MethodName) jdk_43_method_44_code (2 : Nat) (Option.some Jvm.ClassFile.FieldType.char)).before args0 about1 = true := code_word (m := ⟨10, 2⟩) (meth := k10m2) (c := k10c2) (by decide +kernel) rfl rfl rfl (by decide +kernel)
set_option maxRecDepth 65536 in
theorem w_c10 : (Jvm.Cond.code ({ cls := "java/lang/CharacterDataLatin1", name := "isWhitespace", desc := "(I)Z" } : Jvm.MethodName) jdk_116_method_26_code (3 : Nat) (Option.some Jvm.ClassFile.FieldType.boolean)).before args0 about1 = true := code_word (m := ⟨12, 1⟩) (meth := k12m1) (c := k12c1) (by decide +kernel) rfl rfl rfl (by decide +kernel)
set_option maxRecDepth 65536 in
theorem w_c11 : (Jvm.Cond.code ({ cls := "java/lang/CharacterDataLatin1", name := "getProperties", desc := "(I)I" } : Jvm.MethodName) jdk_116_method_1_code (4 : Nat) (Option.some Jvm.ClassFile.FieldType.int)).before args0 about1 = true := code_word (m := ⟨12, 0⟩) (meth := k12m0) (c := k12c0) (by decide +kernel) rfl rfl rfl (by decide +kernel)
set_option maxRecDepth 65536 in
theorem w_c12 : (Jvm.Cond.code ({ cls := "java/lang/String", name := "length", desc := "()I" } : Jvm.MethodName) jdk_42_method_54_code (1 : Nat) (Option.some Jvm.ClassFile.FieldType.int)).before args0 about1 = true := code_word (m := ⟨8, 1⟩) (meth := k8m1) (c := k8c1) (by decide +kernel) rfl rfl rfl (by decide +kernel)
set_option maxRecDepth 65536 in
theorem w_c13 : (Jvm.Cond.code ({ cls := "java/lang/String", name := "coder", desc := "()B" } : Jvm.MethodName) jdk_42_method_152_code (1 : Nat) (Option.some Jvm.ClassFile.FieldType.byte)).before args0 about1 = true := code_word (m := ⟨8, 4⟩) (meth := k8m4) (c := k8c4) (by decide +kernel) rfl rfl rfl (by decide +kernel)
set_option maxRecDepth 65536 in
theorem w_c14 : (Jvm.Cond.code ({ cls := "java/lang/Double", name := "isInfinite", desc := "(D)Z" } : Jvm.MethodName) jdk_117_method_7_code (2 : Nat) (Option.some Jvm.ClassFile.FieldType.boolean)).before args0 about1 = true := code_word (m := ⟨14, 0⟩) (meth := k14m0) (c := k14c0) (by decide +kernel) rfl rfl rfl (by decide +kernel)
set_option maxRecDepth 65536 in
theorem w_c15 : (Jvm.Cond.code ({ cls := "java/lang/Math", name := "abs", desc := "(D)D" } : Jvm.MethodName) jdk_29_method_64_code (2 : Nat) (Option.some Jvm.ClassFile.FieldType.double)).before args0 about1 = true := code_word (m := ⟨15, 1⟩) (meth := k15m1) (c := k15c1) (by decide +kernel) rfl rfl rfl (by decide +kernel)
set_option maxRecDepth 65536 in
theorem w_c16 : (Jvm.Cond.code ({ cls := "com/example/makespun/makespun/pool/Slot", name := "<init>", desc := "(Lcom/example/makespun/makespun/pool/Machine;I)V" } : Jvm.MethodName) prog_69_method_1_code (3 : Nat) (Option.none : Option Jvm.ClassFile.FieldType)).before args0 about1 = true := code_word (m := ⟨16, 0⟩) (meth := k16m0) (c := k16c0) (by decide +kernel) rfl rfl rfl (by decide +kernel)
set_option maxRecDepth 65536 in
theorem w_c17 : (Jvm.Cond.code ({ cls := "com/example/makespun/makespun/pool/Machine", name := "getCores", desc := "()I" } : Jvm.MethodName) prog_66_method_4_code (1 : Nat) (Option.some Jvm.ClassFile.FieldType.int)).before args0 about1 = true := code_word (m := ⟨2, 1⟩) (meth := k2m1) (c := k2c1) (by decide +kernel) rfl rfl rfl (by decide +kernel)
set_option maxRecDepth 65536 in
theorem w_c18 : (Jvm.Cond.code ({ cls := "com/example/makespun/makespun/pool/Slot", name := "equals", desc := "(Ljava/lang/Object;)Z" } : Jvm.MethodName) prog_69_method_4_code (3 : Nat) (Option.some Jvm.ClassFile.FieldType.boolean)).before args0 about1 = true := code_word (m := ⟨16, 1⟩) (meth := k16m1) (c := k16c1) (by decide +kernel) rfl rfl rfl (by decide +kernel)
set_option maxRecDepth 65536 in
theorem w_c19 : (Jvm.Cond.code ({ cls := "java/lang/Integer", name := "valueOf", desc := "(I)Ljava/lang/Integer;" } : Jvm.MethodName) jdk_33_method_22_code (1 : Nat) (Option.some (Jvm.ClassFile.FieldType.object "java/lang/Integer"))).before args0 about1 = true := code_word (m := ⟨17, 0⟩) (meth := k17m0) (c := k17c0) (by decide +kernel) rfl rfl rfl (by decide +kernel)
def codes1 : List Jvm.Cond := [Jvm.Cond.code x code maxLocals ret, Jvm.Cond.code ({ cls := "com/example/makespun/makespun/pool/Machine", name := "<init>", desc := "(Ljava/lang/String;DIDJ)V" } : Jvm.MethodName) prog_66_method_1_code (9 : Nat) (Option.none : Option Jvm.ClassFile.FieldType), Jvm.Cond.code ({ cls := "java/lang/Object", name := "<init>", desc := "()V" } : Jvm.MethodName) object_method_1_code (1 : Nat) (Option.none : Option Jvm.ClassFile.FieldType), Jvm.Cond.code ({ cls := "com/example/makespun/makespun/pool/Machine", name := "checkAttributes", desc := "(Ljava/lang/String;Ljava/lang/String;DID)V" } : Jvm.MethodName) prog_66_method_9_code (7 : Nat) (Option.none : Option Jvm.ClassFile.FieldType), Jvm.Cond.code ({ cls := "java/util/Objects", name := "requireNonNull", desc := "(Ljava/lang/Object;Ljava/lang/String;)Ljava/lang/Object;" } : Jvm.MethodName) jdk_31_method_11_code (2 : Nat) (Option.some (Jvm.ClassFile.FieldType.object "java/lang/Object")), Jvm.Cond.code ({ cls := "java/lang/String", name := "isBlank", desc := "()Z" } : Jvm.MethodName) jdk_42_method_117_code (1 : Nat) (Option.some Jvm.ClassFile.FieldType.boolean), Jvm.Cond.code ({ cls := "java/lang/String", name := "indexOfNonWhitespace", desc := "()I" } : Jvm.MethodName) jdk_42_method_120_code (1 : Nat) (Option.some Jvm.ClassFile.FieldType.int), Jvm.Cond.code ({ cls := "java/lang/String", name := "isLatin1", desc := "()Z" } : Jvm.MethodName) jdk_42_method_154_code (1 : Nat) (Option.some Jvm.ClassFile.FieldType.boolean), Jvm.Cond.code ({ cls := "java/lang/StringLatin1", name := "indexOfNonWhitespace", desc := "([B)I" } : Jvm.MethodName) jdk_43_method_37_code (4 : Nat) (Option.some Jvm.ClassFile.FieldType.int), Jvm.Cond.code ({ cls := "java/lang/StringLatin1", name := "getChar", desc := "([BI)C" } : Jvm.MethodName) jdk_43_method_44_code (2 : Nat) (Option.some Jvm.ClassFile.FieldType.char), Jvm.Cond.code ({ cls := "java/lang/CharacterDataLatin1", name := "isWhitespace", desc := "(I)Z" } : Jvm.MethodName) jdk_116_method_26_code (3 : Nat) (Option.some Jvm.ClassFile.FieldType.boolean), Jvm.Cond.code ({ cls := "java/lang/CharacterDataLatin1", name := "getProperties", desc := "(I)I" } : Jvm.MethodName) jdk_116_method_1_code (4 : Nat) (Option.some Jvm.ClassFile.FieldType.int), Jvm.Cond.code ({ cls := "java/lang/String", name := "length", desc := "()I" } : Jvm.MethodName) jdk_42_method_54_code (1 : Nat) (Option.some Jvm.ClassFile.FieldType.int), Jvm.Cond.code ({ cls := "java/lang/String", name := "coder", desc := "()B" } : Jvm.MethodName) jdk_42_method_152_code (1 : Nat) (Option.some Jvm.ClassFile.FieldType.byte), Jvm.Cond.code ({ cls := "java/lang/Double", name := "isInfinite", desc := "(D)Z" } : Jvm.MethodName) jdk_117_method_7_code (2 : Nat) (Option.some Jvm.ClassFile.FieldType.boolean), Jvm.Cond.code ({ cls := "java/lang/Math", name := "abs", desc := "(D)D" } : Jvm.MethodName) jdk_29_method_64_code (2 : Nat) (Option.some Jvm.ClassFile.FieldType.double), Jvm.Cond.code ({ cls := "com/example/makespun/makespun/pool/Slot", name := "<init>", desc := "(Lcom/example/makespun/makespun/pool/Machine;I)V" } : Jvm.MethodName) prog_69_method_1_code (3 : Nat) (Option.none : Option Jvm.ClassFile.FieldType), Jvm.Cond.code ({ cls := "com/example/makespun/makespun/pool/Machine", name := "getCores", desc := "()I" } : Jvm.MethodName) prog_66_method_4_code (1 : Nat) (Option.some Jvm.ClassFile.FieldType.int), Jvm.Cond.code ({ cls := "com/example/makespun/makespun/pool/Slot", name := "equals", desc := "(Ljava/lang/Object;)Z" } : Jvm.MethodName) prog_69_method_4_code (3 : Nat) (Option.some Jvm.ClassFile.FieldType.boolean), Jvm.Cond.code ({ cls := "java/lang/Integer", name := "valueOf", desc := "(I)Ljava/lang/Integer;" } : Jvm.MethodName) jdk_33_method_22_code (1 : Nat) (Option.some (Jvm.ClassFile.FieldType.object "java/lang/Integer"))]
set_option maxRecDepth 65536 in
theorem codes_eq : words1.filter isCode = codes1 := rfl
theorem w_codes : ∀ c ∈ words1.filter isCode, c.before args0 about1 = true := by
  rw [codes_eq]
  intro c hc
  simp only [codes1, List.mem_cons, List.not_mem_nil, or_false] at hc
  rcases hc with rfl | rfl | rfl | rfl | rfl | rfl | rfl | rfl | rfl | rfl | rfl | rfl | rfl | rfl | rfl | rfl | rfl | rfl | rfl | rfl
  · exact w_c0
  · exact w_c1
  · exact w_c2
  · exact w_c3
  · exact w_c4
  · exact w_c5
  · exact w_c6
  · exact w_c7
  · exact w_c8
  · exact w_c9
  · exact w_c10
  · exact w_c11
  · exact w_c12
  · exact w_c13
  · exact w_c14
  · exact w_c15
  · exact w_c16
  · exact w_c17
  · exact w_c18
  · exact w_c19
set_option maxRecDepth 65536 in
theorem w_t1 : (words1.take 24).all (fun c => isCode c || c.before args0 about1) = true := by decide +kernel
set_option maxRecDepth 65536 in
theorem w_t2 : ((words1.drop 24).take 24).all (fun c => isCode c || c.before args0 about1) = true := by decide +kernel
set_option maxRecDepth 65536 in
theorem w_t3 : (((words1.drop 24).drop 24).take 24).all (fun c => isCode c || c.before args0 about1) = true := by decide +kernel
set_option maxRecDepth 65536 in
theorem w_t4 : ((((words1.drop 24).drop 24).drop 24).take 24).all (fun c => isCode c || c.before args0 about1) = true := by decide +kernel
set_option maxRecDepth 65536 in
theorem w_t5 : (((((words1.drop 24).drop 24).drop 24).drop 24).take 24).all (fun c => isCode c || c.before args0 about1) = true := by decide +kernel
set_option maxRecDepth 65536 in
theorem w_t6 : (((((words1.drop 24).drop 24).drop 24).drop 24).drop 24).all (fun c => isCode c || c.before args0 about1) = true := by decide +kernel
theorem w_tables : (allAtoms (Jvm.Cond.code x code maxLocals ret :: tables_1)).before args0 about1 = true := by
  rw [allAtoms_all]
  show words1.all (fun c => c.before args0 about1) = true
  refine all_split ?_ w_codes
  rw [← List.take_append_drop 24 words1, List.all_append, w_t1, ← List.take_append_drop 24 (words1.drop 24), List.all_append, w_t2, ← List.take_append_drop 24 ((words1.drop 24).drop 24), List.all_append, w_t3, ← List.take_append_drop 24 (((words1.drop 24).drop 24).drop 24), List.all_append, w_t4, ← List.take_append_drop 24 ((((words1.drop 24).drop 24).drop 24).drop 24), List.all_append, w_t5, w_t6]
  rfl
set_option maxRecDepth 65536 in
theorem w_rest : rest_1_c.before args0 about1 = true := by decide +kernel
set_option maxRecDepth 65536 in
theorem w_case : (Jvm.Cond.and given_1 narrow_1).before args0 about1 = true := by decide +kernel
set_option maxRecDepth 65536 in
theorem w_consts : constsHeld consts_1 about1 := Jvm.Lit.constsHeldB_iff.mp (by decide +kernel)
theorem w_applies : (headSpec (Jvm.Cond.code x code maxLocals ret :: tables_1) room_1).applies x e0.platform about1 = true :=
  (Spec.applies_iff w_frames).mpr ⟨w_running, w_runnable, w_alone, w_named, w_hears, w_ripe, w_room, w_tables⟩
theorem atStart : AtStart classFile x code maxLocals ret World_1 tables_1 room_1 Calls_1 rest_1 Pre_1 launch0 p0 e0 about1 theMethod args0 below0 :=
  ⟨lists_1, trivial, launch0.admits_env _ _ _, launch0.least_env, fairChoices_fair.cas, fairChoices_fair.clock, w_frames, w_args, w_heap, w_applies, ⟨w_consts, trivial⟩, w_rest, w_case⟩
end start1
theorem witness_1 : WitnessClaimed_1 := ⟨start1.p0, start1.e0, start1.about1, start1.theMethod, start1.args0, start1.below0, start1.atStart⟩
end Jvm.Pilot.@@N@@
