import JvmDerived
import JvmDerived.Pilot.@@N@@Statement
import JvmDerived.Pilot.@@N@@Code
set_option linter.unusedVariables false
set_option linter.unusedSimpArgs false
@@BLOCK:NumsL.lean.txt@@
@@BLOCK:TracedD.lean.txt@@
namespace Jvm.RoadKit
open Sem ClassFile Op Lib Jvm.Stand Jvm.Free Jvm.LawKit
section New
variable {p : Program} {l : Launch} {e : Env} {R : Room} {s : State} {m : MethodId} {args : Array Value} {below : List Frame} {meth : Method} {c : Code} {T : State} {locs : List Loc} {cells slots : Nat}
theorem retI (X : Stand p l e R s m args below meth c T locs cells slots) (hx : p.tables.exec = Jvm.exec) {pc : Nat} {Ls : Array Slot} {z : Int32} {rest : List Value} (hret : meth.sig.returnType = some .int) (hd : decode c.code pc = .ok (.ireturn, 1)) {fs : List Frame}
    (hl : ∀ (f : JFrame) (acts : List Action), f.method = m → f.locked = none → f.entered = [] → (doReturn e (T.setTop f) acts (some (.int z))).1 = T.setFrames fs) : Steps p.tables e below (T.setTop (mkF m pc Ls (.int z :: rest))) (T.setFrames fs) :=
  retOut X hx hret rfl (Or.inl ⟨rfl, Or.inl rfl, z, rfl⟩) hd hl
end New
end Jvm.RoadKit
namespace Jvm.Pilot.@@N@@
open Jvm Jvm.ClassFile Sem Op Lib Jvm.Free Jvm.Stand Jvm.LawKit Jvm.RoadKit Bundle Jvm.Pilot.@@N@@.Jvm.D
theorem own_sta_keep {Z : State} {h h' : Heap} {C n d : String} {v : Value} (F : Sta Z h C n d v) (K : Keep h h' []) : Sta Z h' C n d v := by
  obtain ⟨cf, i, k, f, st, cell, h1, h2, h3, h4, h5, h6, h7⟩ := F
  exact ⟨cf, i, k, f, st, cell, h1, h2, h3, h4, K.2.1 _ _ h5 nin0, h6, h7⟩
def own_QI (r : Int32) (Z : State) (h0 : Heap) (n0 : Nat) (v : Option Value) (h : Heap) (L : List Loc) : Prop := v = some (.int r) ∧ Fr n0 L ∧ h = h0
def own_QB (Z : State) (p1 : Int32) (h0 : Heap) (n0 : Nat) (v : Option Value) (h : Heap) (L : List Loc) : Prop := ∃ b : Addr, v = some (.ref b) ∧ Fr n0 L ∧ Keep h0 h [] ∧ h0.size ≤ b
def own_QS (Z : State) (w p1 : Int32) (h0 : Heap) (n0 : Nat) (v : Option Value) (h : Heap) (L : List Loc) : Prop := ∃ b : Addr, v = some (.ref b) ∧ Fr n0 L ∧ Keep h0 h [] ∧ h0.size ≤ b ∧ Exa Z h b "java/lang/String"
def own_QC (Z : State) (a1 a2 : Addr) (p3 : Int32) (h0 : Heap) (n0 : Nat) (v : Option Value) (h : Heap) (L : List Loc) : Prop := v = none ∧ Fr n0 L ∧ Keep h0 h [a1] ∧ Exa Z h a1 "java/lang/String"
def own_QE (Z : State) (p1 : Int32) := own_QI 1 Z
theorem own_byte (x : Int32) : ¬ (255 : Int32) < (x &&& 255) := fun q => by
  have e : (x &&& 255).toInt = x.toInt % 2 ^ 8 := Jvm.Kit.i32_mask x 255 (k := 8) (by decide) (by decide)
  rw [Int32.lt_iff_toInt_lt] at q
  have z : (255 : Int32).toInt = 255 := by decide
  omega
def own_min (x y : Int32) : Int32 := if y < x then y else x
def own_max (x y : Int32) : Int32 := if x < y then y else x
def own_pass (st : Int32) : Int32 := if st < (500 : Int32) then (0 : Int32) else (1 : Int32)
theorem own_pass0 {st : Int32} : own_pass st = 0 ↔ st < 500 := by
  unfold own_pass
  by_cases h : st < 500
  · rw [if_pos h]; exact ⟨fun _ => h, fun _ => rfl⟩
  · rw [if_neg h]; exact ⟨fun q => absurd q (by decide), fun q => absurd q h⟩
theorem own_mono (s t : Int32) : ¬ (if own_pass (own_min s t) = (0 : Int32) then (1 : Int32) else (if own_pass (own_max s t) = (0 : Int32) then (0 : Int32) else (1 : Int32))) = 0 := by
  by_cases h1 : own_pass (own_min s t) = 0
  · rw [if_pos h1]; decide
  · rw [if_neg h1]
    have h2 : ¬ own_pass (own_max s t) = 0 := fun q => h1 (own_pass0.mpr (by
      have q2 := own_pass0.mp q
      unfold own_min
      unfold own_max at q2
      rw [Int32.lt_iff_toInt_lt] at q2 ⊢
      by_cases a : t < s
      · rw [if_pos a]
        have b : ¬ s < t := by rw [Int32.lt_iff_toInt_lt] at a ⊢; omega
        rw [if_neg b] at q2
        rw [Int32.lt_iff_toInt_lt] at a; omega
      · rw [if_neg a]
        by_cases b : s < t
        · rw [if_pos b] at q2; rw [Int32.lt_iff_toInt_lt] at b; omega
        · rw [if_neg b] at q2; exact q2))
    rw [if_neg h2]; decide
theorem own_char (x : Int32) : ¬ (255 : Int32) < nar .char ((x &&& (255 : Int32)).toUInt32.toUInt16.toUInt32.toInt32) := by
  have e : nar .char ((x &&& (255 : Int32)).toUInt32.toUInt16.toUInt32.toInt32) = x &&& 255 := by
    rw [i2c_mask]; exact i2c_mask x
  rw [e]; exact own_byte x
def own_Qm (Z : State) (p1 p2 : Int32) := own_QI (own_min p1 p2) Z
def own_QM (Z : State) (p1 p2 : Int32) := own_QI (own_max p1 p2) Z
def own_QK (Z : State) (a1 : Addr) (st : Int32) := own_QI (own_pass st) Z
def own_Qc (Z : State) (a1 : Addr) := own_QI 0 Z
def own_Q5 (Z : State) (a1 a3 : Addr) (k3 : ClassId) (v0 : Int32) (h0 : Heap) (n0 : Nat) (v : Option Value) (h : Heap) (L : List Loc) : Prop := v = some (.int 1) ∧ Fr n0 L ∧ Keep h0 h [a3] ∧ Arv Z h a3 k3 .byte (1 : Int32) [(.int v0.toInt8.toInt32.toInt8.toInt32)] (.int (0 : Int32))
def own_Q3 (Z : State) (a1 : Addr) (v0 : Int32) (h0 : Heap) (n0 : Nat) (v : Option Value) (h : Heap) (L : List Loc) : Prop := ∃ (b : Addr) (kb : ClassId), v = some (.ref b) ∧ Fr n0 L ∧ Keep h0 h [] ∧ h0.size ≤ b ∧ Arv Z h b kb .byte (1 : Int32) [(.int v0.toInt8.toInt32.toInt8.toInt32)] (.int (0 : Int32))
def own_QC4 (Z : State) (a1 a2 : Addr) (h0 : Heap) (n0 : Nat) (v : Option Value) (h : Heap) (L : List Loc) : Prop := v = none ∧ Fr n0 L ∧ Keep h0 h [a1] ∧ Exa Z h a1 "java/lang/String"
theorem d5_0 : decode jdk_52_method_21_code 0 = .ok (.iconst 0, 1) := by decide +kernel
theorem d5_1 : decode jdk_52_method_21_code 1 = .ok (.istore 5, 2) := by decide +kernel
theorem d5_3 : decode jdk_52_method_21_code 3 = .ok (.iload 5, 2) := by decide +kernel
theorem d5_5 : decode jdk_52_method_21_code 5 = .ok (.iload 4, 2) := by decide +kernel
theorem d5_7 : decode jdk_52_method_21_code 7 = .ok (.if_icmp .ge 37, 3) := by decide +kernel
theorem d5_10 : decode jdk_52_method_21_code 10 = .ok (.aload_n 0, 1) := by decide +kernel
theorem d5_11 : decode jdk_52_method_21_code 11 = .ok (.iload_n 1, 1) := by decide +kernel
theorem d5_12 : decode jdk_52_method_21_code 12 = .ok (.caload, 1) := by decide +kernel
theorem d5_13 : decode jdk_52_method_21_code 13 = .ok (.istore 6, 2) := by decide +kernel
theorem d5_15 : decode jdk_52_method_21_code 15 = .ok (.iload 6, 2) := by decide +kernel
theorem d5_17 : decode jdk_52_method_21_code 17 = .ok (.sipush 255, 3) := by decide +kernel
theorem d5_20 : decode jdk_52_method_21_code 20 = .ok (.if_icmp .le 6, 3) := by decide +kernel
theorem d5_23 : decode jdk_52_method_21_code 23 = .ok (.iload 5, 2) := by decide +kernel
theorem d5_25 : decode jdk_52_method_21_code 25 = .ok (.ireturn, 1) := by decide +kernel
theorem d5_26 : decode jdk_52_method_21_code 26 = .ok (.aload_n 2, 1) := by decide +kernel
theorem d5_27 : decode jdk_52_method_21_code 27 = .ok (.iload_n 3, 1) := by decide +kernel
theorem d5_28 : decode jdk_52_method_21_code 28 = .ok (.iload 6, 2) := by decide +kernel
theorem d5_30 : decode jdk_52_method_21_code 30 = .ok (.i2b, 1) := by decide +kernel
theorem d5_31 : decode jdk_52_method_21_code 31 = .ok (.bastore, 1) := by decide +kernel
theorem d5_32 : decode jdk_52_method_21_code 32 = .ok (.iinc 1 1, 3) := by decide +kernel
theorem d5_35 : decode jdk_52_method_21_code 35 = .ok (.iinc 3 1, 3) := by decide +kernel
theorem d5_38 : decode jdk_52_method_21_code 38 = .ok (.iinc 5 1, 3) := by decide +kernel
theorem d5_41 : decode jdk_52_method_21_code 41 = .ok (.goto (-38), 3) := by decide +kernel
theorem d5_44 : decode jdk_52_method_21_code 44 = .ok (.iload 4, 2) := by decide +kernel
theorem d5_46 : decode jdk_52_method_21_code 46 = .ok (.ireturn, 1) := by decide +kernel
theorem pn_5 : plainName "java/lang/StringUTF16" = true := by first | (simp [plainName, overriddenIn]; done) | decide +kernel
theorem ef_5 (m : MethodId) (x0 : Addr) (x1 : Int32) (x2 : Addr) (x3 : Int32) (x4 : Int32) : entryFrame m #[(.ref x0), (.int x1), (.ref x2), (.int x3), (.int x4)] 7 = mkF m 0 #[.val (.ref x0), .val (.int x1), .val (.ref x2), .val (.int x3), .val (.int x4), .unset, .unset] [] := by first | (simp [entryFrame, mkF, argsToLocals, Value.category]; done) | rfl
set_option maxRecDepth 65536 in
set_option maxHeartbeats 40000000 in
theorem rm5 (l : Launch) (Z : State) (a0 : Array Value) (hw : ∀ d ∈ tables_1, d.before a0 Z = true) (ws : List Jvm.Cond) (a1 a3 : Addr) (kc k3 : ClassId) (v0 : Int32) (h0 : Heap) (n0 : Nat) (Z0 : n0 ≤ h0.size) (Vc : Arv Z h0 a1 kc .char (1 : Int32) [(.int v0)] (.int (0 : Int32))) (Vb : Arv Z h0 a3 k3 .byte (1 : Int32) [(.int (0 : Int32))] (.int (0 : Int32))) (hne : a1 ≠ a3) (g_a3 : n0 ≤ a3) (hb1 : ¬ (255 : Int32) < v0) :
    MetFree l (⟨"java/lang/StringUTF16", "compress", "([CI[BII)I"⟩ : MethodName) (head1 (Jvm.Cond.code (⟨"java/lang/StringUTF16", "compress", "([CI[BII)I"⟩ : MethodName) jdk_52_method_21_code 7 (some .int) :: ws) ({ frames := 0, cells := 0, slots := 0, locals := 0 } : Room)) (fun a U => a = #[(.ref a1), (.int (0 : Int32)), (.ref a3), (.int (0 : Int32)), (.int (1 : Int32))] ∧ Z.Warmed39 U.vm ∧ U.heap = h0) (fun _ _ _ _ _ => True) (fun _ U o U' => ∃ v L, o = .returned v ∧ own_Q5 Z a1 a3 k3 v0 h0 n0 v U'.heap L ∧ FrameEnd U o U' L ({ frames := 0, cells := 0, slots := 0, locals := 0 } : Room).cells ({ frames := 0, cells := 0, slots := 0, locals := 0 } : Room).slots) := by
  refine MetFree.of_bodySF (plainFor_of_name pn_5) hisR ?_
  intro p e s m args below meth c s₁ Bd hml0 hP hK
  obtain ⟨rfl, hZ, hh⟩ := hP
  have hx := Bd.exec
  have hby := Bd.bytes
  have hml : c.maxLocals = 7 := hml0
  have hown : s.vm.findClass "java/lang/StringUTF16" = some m.cls := findClass_of_methodNamed Bd.named
  have hnm := (name_of_methodNamed Bd.named Bd.method).1
  have X0 : Stand p l e ({ frames := 0, cells := 0, slots := 0, locals := 0 } : Room) s m #[(.ref a1), (.int (0 : Int32)), (.ref a3), (.int (0 : Int32)), (.int (1 : Int32))] below meth c s₁ [] 0 0 := Stand.of_body Bd
  have e0 : s₁.heap = h0 := by rw [← hh, Bd.state]; rfl
  have N0 := Fr.nil n0
  have pre0 : ∀ tq, Steps p.tables e below (s₁.setTop (mkF m 0 #[.val (.ref a1), .val (.int (0 : Int32)), .val (.ref a3), .val (.int (0 : Int32)), .val (.int (1 : Int32)), .unset, .unset] [])) tq → Steps p.tables e below (s₁.setTop (entryFrame m #[(.ref a1), (.int (0 : Int32)), (.ref a3), (.int (0 : Int32)), (.int (1 : Int32))] 7)) tq := fun tq k => castTop (ef_5 m a1 (0 : Int32) a3 (0 : Int32) (1 : Int32)) k
  obtain ⟨clq1, Arq1, cq1, Sq1, nq1, Hq1, Gq1⟩ := id Vc
  have hiq1 : ¬ ((0 : Int32) < 0 ∨ clq1.slots.size ≤ ((0 : Int32)).toNatClampNeg) := inb_of Sq1 ⟨by decide, by decide⟩
  have haq1 : clq1.slots[((0 : Int32)).toNatClampNeg]? = some (.int v0) := Hq1.at hiq1 rfl
  obtain ⟨clq2, Arq2, cq2, Sq2, nq2, Hq2, Gq2⟩ := id Vb
  have hiq2 : ¬ ((0 : Int32) < 0 ∨ clq2.slots.size ≤ ((0 : Int32)).toNatClampNeg) := inb_of Sq2 ⟨by decide, by decide⟩
  obtain ⟨T3, h3, X3, e3, W3, st3⟩ := stB X0 hx hZ e0 Arq2 (j := (0 : Int32)) hiq2 (g := (mkF m 31 #[.val (.ref a1), .val (.int (0 : Int32)), .val (.ref a3), .val (.int (0 : Int32)), .val (.int (1 : Int32)), .val (.int (0 : Int32)), .val (.int v0)] [(.int (v0.toInt8.toInt32)), (.int (0 : Int32)), (.ref a3)])) rfl rfl (hb hby d5_31)
  have v4 : Arv Z h3 a3 k3 .byte (1 : Int32) [(.int (v0.toInt8.toInt32).toInt8.toInt32)] (.int (0 : Int32)) := Arv.set Arq2 cq2 Sq2 nq2 Hq2 Gq2 (fits_nar_byte _) W3 0 rfl (Nat.le_of_ble_eq_true rfl)
  have f5 := Vc.other W3 hne
  have kp6 := (Keep.refl h0 [a3]).wr W3 (Or.inl (List.mem_of_getElem? (i := 0) rfl))
  have z7 := Nat.le_trans Z0 (Keep.of_wr W3).1
  have N8 := Fr.snoc X3 N0 g_a3
  obtain ⟨fs, hr, hrun, hended, hW, hsame⟩ := X3.leave (v := some (.int (1 : Int32))) (fun h => by rw [Bd.returns] at h; cases h)
  refine ⟨_, _, pre0 _ ?_, hrun, hended, _, _, rfl, ?_, ⟨_, rfl⟩, hW, hsame.mono (by decide) (by decide)⟩
  · show Steps p.tables e below (s₁.setTop (mkF m 0 #[.val (.ref a1), .val (.int (0 : Int32)), .val (.ref a3), .val (.int (0 : Int32)), .val (.int (1 : Int32)), .unset, .unset] [])) _
    refine XS.iconst X0.here hx rfl (hb hby d5_0) ?_
    show Steps p.tables e below (s₁.setTop (mkF m 1 #[.val (.ref a1), .val (.int (0 : Int32)), .val (.ref a3), .val (.int (0 : Int32)), .val (.int (1 : Int32)), .unset, .unset] [(.int (0 : Int32))])) _
    refine XS.istore X0.here hx rfl (hb hby d5_1) rfl (l' := #[.val (.ref a1), .val (.int (0 : Int32)), .val (.ref a3), .val (.int (0 : Int32)), .val (.int (1 : Int32)), .val (.int (0 : Int32)), .unset]) rfl ?_
    show Steps p.tables e below (s₁.setTop (mkF m 3 #[.val (.ref a1), .val (.int (0 : Int32)), .val (.ref a3), .val (.int (0 : Int32)), .val (.int (1 : Int32)), .val (.int (0 : Int32)), .unset] [])) _
    refine XS.iload X0.here hx rfl (hb hby d5_3) rfl ?_
    show Steps p.tables e below (s₁.setTop (mkF m 5 #[.val (.ref a1), .val (.int (0 : Int32)), .val (.ref a3), .val (.int (0 : Int32)), .val (.int (1 : Int32)), .val (.int (0 : Int32)), .unset] [(.int (0 : Int32))])) _
    refine XS.iload X0.here hx rfl (hb hby d5_5) rfl ?_
    show Steps p.tables e below (s₁.setTop (mkF m 7 #[.val (.ref a1), .val (.int (0 : Int32)), .val (.ref a3), .val (.int (0 : Int32)), .val (.int (1 : Int32)), .val (.int (0 : Int32)), .unset] [(.int (1 : Int32)), (.int (0 : Int32))])) _
    refine XS.icmpNo X0.here hx rfl (hb hby d5_7) rfl (tlt (by decide : ((0 : Int32) < (1 : Int32)))).2.1 ?_
    show Steps p.tables e below (s₁.setTop (mkF m 10 #[.val (.ref a1), .val (.int (0 : Int32)), .val (.ref a3), .val (.int (0 : Int32)), .val (.int (1 : Int32)), .val (.int (0 : Int32)), .unset] [])) _
    refine XS.aloadN X0.here hx rfl (hb hby d5_10) rfl rfl ?_
    show Steps p.tables e below (s₁.setTop (mkF m 11 #[.val (.ref a1), .val (.int (0 : Int32)), .val (.ref a3), .val (.int (0 : Int32)), .val (.int (1 : Int32)), .val (.int (0 : Int32)), .unset] [(.ref a1)])) _
    refine XS.iloadN X0.here hx rfl (hb hby d5_11) rfl ?_
    show Steps p.tables e below (s₁.setTop (mkF m 12 #[.val (.ref a1), .val (.int (0 : Int32)), .val (.ref a3), .val (.int (0 : Int32)), .val (.int (1 : Int32)), .val (.int (0 : Int32)), .unset] [(.int (0 : Int32)), (.ref a1)])) _
    refine X0.caload hx (j := (0 : Int32)) (v := (.int v0)) (by rw [e0]; exact Arq1.1) (State.isArrayOf_alike hZ.alike Arq1.2.1) Arq1.2.2 hiq1 haq1 (g := (mkF m 12 #[.val (.ref a1), .val (.int (0 : Int32)), .val (.ref a3), .val (.int (0 : Int32)), .val (.int (1 : Int32)), .val (.int (0 : Int32)), .unset] [(.int (0 : Int32)), (.ref a1)])) rfl rfl (hb hby d5_12) _ ?_
    show Steps p.tables e below (s₁.setTop (mkF m 13 #[.val (.ref a1), .val (.int (0 : Int32)), .val (.ref a3), .val (.int (0 : Int32)), .val (.int (1 : Int32)), .val (.int (0 : Int32)), .unset] [(.int v0)])) _
    refine XS.istore X0.here hx rfl (hb hby d5_13) rfl (l' := #[.val (.ref a1), .val (.int (0 : Int32)), .val (.ref a3), .val (.int (0 : Int32)), .val (.int (1 : Int32)), .val (.int (0 : Int32)), .val (.int v0)]) rfl ?_
    show Steps p.tables e below (s₁.setTop (mkF m 15 #[.val (.ref a1), .val (.int (0 : Int32)), .val (.ref a3), .val (.int (0 : Int32)), .val (.int (1 : Int32)), .val (.int (0 : Int32)), .val (.int v0)] [])) _
    refine XS.iload X0.here hx rfl (hb hby d5_15) rfl ?_
    show Steps p.tables e below (s₁.setTop (mkF m 17 #[.val (.ref a1), .val (.int (0 : Int32)), .val (.ref a3), .val (.int (0 : Int32)), .val (.int (1 : Int32)), .val (.int (0 : Int32)), .val (.int v0)] [(.int v0)])) _
    refine XS.sipush X0.here hx rfl (hb hby d5_17) ?_
    show Steps p.tables e below (s₁.setTop (mkF m 20 #[.val (.ref a1), .val (.int (0 : Int32)), .val (.ref a3), .val (.int (0 : Int32)), .val (.int (1 : Int32)), .val (.int (0 : Int32)), .val (.int v0)] [(.int (255 : Int32)), (.int v0)])) _
    refine XS.icmpYes X0.here hx rfl (pc0 := 20) (pc' := 26) rfl (hb hby d5_20) rfl (flt hb1).2.2.2 (by decide) (by decide) ?_
    show Steps p.tables e below (s₁.setTop (mkF m 26 #[.val (.ref a1), .val (.int (0 : Int32)), .val (.ref a3), .val (.int (0 : Int32)), .val (.int (1 : Int32)), .val (.int (0 : Int32)), .val (.int v0)] [])) _
    refine XS.aloadN X0.here hx rfl (hb hby d5_26) rfl rfl ?_
    show Steps p.tables e below (s₁.setTop (mkF m 27 #[.val (.ref a1), .val (.int (0 : Int32)), .val (.ref a3), .val (.int (0 : Int32)), .val (.int (1 : Int32)), .val (.int (0 : Int32)), .val (.int v0)] [(.ref a3)])) _
    refine XS.iloadN X0.here hx rfl (hb hby d5_27) rfl ?_
    show Steps p.tables e below (s₁.setTop (mkF m 28 #[.val (.ref a1), .val (.int (0 : Int32)), .val (.ref a3), .val (.int (0 : Int32)), .val (.int (1 : Int32)), .val (.int (0 : Int32)), .val (.int v0)] [(.int (0 : Int32)), (.ref a3)])) _
    refine XS.iload X0.here hx rfl (hb hby d5_28) rfl ?_
    show Steps p.tables e below (s₁.setTop (mkF m 30 #[.val (.ref a1), .val (.int (0 : Int32)), .val (.ref a3), .val (.int (0 : Int32)), .val (.int (1 : Int32)), .val (.int (0 : Int32)), .val (.int v0)] [(.int v0), (.int (0 : Int32)), (.ref a3)])) _
    refine XS.i2b X0.here hx rfl (hb hby d5_30) rfl ?_
    show Steps p.tables e below (s₁.setTop (mkF m 31 #[.val (.ref a1), .val (.int (0 : Int32)), .val (.ref a3), .val (.int (0 : Int32)), .val (.int (1 : Int32)), .val (.int (0 : Int32)), .val (.int v0)] [(.int (v0.toInt8.toInt32)), (.int (0 : Int32)), (.ref a3)])) _
    refine st3 _ ?_
    show Steps p.tables e below (T3.setTop (mkF m 32 #[.val (.ref a1), .val (.int (0 : Int32)), .val (.ref a3), .val (.int (0 : Int32)), .val (.int (1 : Int32)), .val (.int (0 : Int32)), .val (.int v0)] [])) _
    refine XS.iinc X3.here hx rfl (hb hby d5_32) rfl (l' := #[.val (.ref a1), .val (.int (1 : Int32)), .val (.ref a3), .val (.int (0 : Int32)), .val (.int (1 : Int32)), .val (.int (0 : Int32)), .val (.int v0)]) rfl ?_
    show Steps p.tables e below (T3.setTop (mkF m 35 #[.val (.ref a1), .val (.int (1 : Int32)), .val (.ref a3), .val (.int (0 : Int32)), .val (.int (1 : Int32)), .val (.int (0 : Int32)), .val (.int v0)] [])) _
    refine XS.iinc X3.here hx rfl (hb hby d5_35) rfl (l' := #[.val (.ref a1), .val (.int (1 : Int32)), .val (.ref a3), .val (.int (1 : Int32)), .val (.int (1 : Int32)), .val (.int (0 : Int32)), .val (.int v0)]) rfl ?_
    show Steps p.tables e below (T3.setTop (mkF m 38 #[.val (.ref a1), .val (.int (1 : Int32)), .val (.ref a3), .val (.int (1 : Int32)), .val (.int (1 : Int32)), .val (.int (0 : Int32)), .val (.int v0)] [])) _
    refine XS.iinc X3.here hx rfl (hb hby d5_38) rfl (l' := #[.val (.ref a1), .val (.int (1 : Int32)), .val (.ref a3), .val (.int (1 : Int32)), .val (.int (1 : Int32)), .val (.int (1 : Int32)), .val (.int v0)]) rfl ?_
    show Steps p.tables e below (T3.setTop (mkF m 41 #[.val (.ref a1), .val (.int (1 : Int32)), .val (.ref a3), .val (.int (1 : Int32)), .val (.int (1 : Int32)), .val (.int (1 : Int32)), .val (.int v0)] [])) _
    refine XS.goto X3.here hx rfl (pc0 := 41) (pc' := 3) rfl (hb hby d5_41) (by decide) (by decide) ?_
    show Steps p.tables e below (T3.setTop (mkF m 3 #[.val (.ref a1), .val (.int (1 : Int32)), .val (.ref a3), .val (.int (1 : Int32)), .val (.int (1 : Int32)), .val (.int (1 : Int32)), .val (.int v0)] [])) _
    refine XS.iload X3.here hx rfl (hb hby d5_3) rfl ?_
    show Steps p.tables e below (T3.setTop (mkF m 5 #[.val (.ref a1), .val (.int (1 : Int32)), .val (.ref a3), .val (.int (1 : Int32)), .val (.int (1 : Int32)), .val (.int (1 : Int32)), .val (.int v0)] [(.int (1 : Int32))])) _
    refine XS.iload X3.here hx rfl (hb hby d5_5) rfl ?_
    show Steps p.tables e below (T3.setTop (mkF m 7 #[.val (.ref a1), .val (.int (1 : Int32)), .val (.ref a3), .val (.int (1 : Int32)), .val (.int (1 : Int32)), .val (.int (1 : Int32)), .val (.int v0)] [(.int (1 : Int32)), (.int (1 : Int32))])) _
    refine XS.icmpYes X3.here hx rfl (pc0 := 7) (pc' := 44) rfl (hb hby d5_7) rfl (flt (by decide : ¬ ((1 : Int32) < (1 : Int32)))).2.1 (by decide) (by decide) ?_
    show Steps p.tables e below (T3.setTop (mkF m 44 #[.val (.ref a1), .val (.int (1 : Int32)), .val (.ref a3), .val (.int (1 : Int32)), .val (.int (1 : Int32)), .val (.int (1 : Int32)), .val (.int v0)] [])) _
    refine XS.iload X3.here hx rfl (hb hby d5_44) rfl ?_
    show Steps p.tables e below (T3.setTop (mkF m 46 #[.val (.ref a1), .val (.int (1 : Int32)), .val (.ref a3), .val (.int (1 : Int32)), .val (.int (1 : Int32)), .val (.int (1 : Int32)), .val (.int v0)] [(.int (1 : Int32))])) _
    exact retI X3 hx Bd.returns (hb hby d5_46) hr
  · show own_Q5 Z a1 a3 k3 v0 h0 n0 _ T3.heap _
    rw [e3]
    exact ⟨rfl, N8, kp6, v4⟩
theorem pd_0 : parseMethodDescriptor "([C)V" = some ⟨[(.array .char)], none⟩ := by decide +kernel
theorem pd_1 : parseMethodDescriptor "([CIILjava/lang/Void;)V" = some ⟨[(.array .char), .int, .int, (.object "java/lang/Void")], none⟩ := by decide +kernel
theorem pd_2 : parseMethodDescriptor "([CII)[B" = some ⟨[(.array .char), .int, .int], some (.array .byte)⟩ := by decide +kernel
theorem pd_3 : parseMethodDescriptor "([CI[BII)I" = some ⟨[(.array .char), .int, (.array .byte), .int, .int], some .int⟩ := by decide +kernel
theorem pd_4 : parseMethodDescriptor "([BI)B" = some ⟨[(.array .byte), .int], some .byte⟩ := by decide +kernel
theorem d4_0 : decode jdk_52_method_16_code 0 = .ok (.iload_n 2, 1) := by decide +kernel
theorem d4_1 : decode jdk_52_method_16_code 1 = .ok (.newarray .byte, 2) := by decide +kernel
theorem d4_3 : decode jdk_52_method_16_code 3 = .ok (.astore_n 3, 1) := by decide +kernel
theorem d4_4 : decode jdk_52_method_16_code 4 = .ok (.aload_n 0, 1) := by decide +kernel
theorem d4_5 : decode jdk_52_method_16_code 5 = .ok (.iload_n 1, 1) := by decide +kernel
theorem d4_6 : decode jdk_52_method_16_code 6 = .ok (.aload_n 3, 1) := by decide +kernel
theorem d4_7 : decode jdk_52_method_16_code 7 = .ok (.iconst 0, 1) := by decide +kernel
theorem d4_8 : decode jdk_52_method_16_code 8 = .ok (.iload_n 2, 1) := by decide +kernel
theorem d4_9 : decode jdk_52_method_16_code 9 = .ok (.invokestatic 115, 3) := by decide +kernel
theorem d4_12 : decode jdk_52_method_16_code 12 = .ok (.istore 4, 2) := by decide +kernel
theorem d4_14 : decode jdk_52_method_16_code 14 = .ok (.iload 4, 2) := by decide +kernel
theorem d4_16 : decode jdk_52_method_16_code 16 = .ok (.iload_n 2, 1) := by decide +kernel
theorem d4_17 : decode jdk_52_method_16_code 17 = .ok (.if_icmp .eq 40, 3) := by decide +kernel
theorem d4_20 : decode jdk_52_method_16_code 20 = .ok (.aload_n 0, 1) := by decide +kernel
theorem d4_21 : decode jdk_52_method_16_code 21 = .ok (.iload_n 1, 1) := by decide +kernel
theorem d4_22 : decode jdk_52_method_16_code 22 = .ok (.iload_n 2, 1) := by decide +kernel
theorem d4_23 : decode jdk_52_method_16_code 23 = .ok (.invokestatic 119, 3) := by decide +kernel
theorem d4_26 : decode jdk_52_method_16_code 26 = .ok (.astore 5, 2) := by decide +kernel
theorem d4_28 : decode jdk_52_method_16_code 28 = .ok (.aload 5, 2) := by decide +kernel
theorem d4_30 : decode jdk_52_method_16_code 30 = .ok (.iload 4, 2) := by decide +kernel
theorem d4_32 : decode jdk_52_method_16_code 32 = .ok (.invokestatic 71, 3) := by decide +kernel
theorem d4_35 : decode jdk_52_method_16_code 35 = .ok (.sipush 255, 3) := by decide +kernel
theorem d4_38 : decode jdk_52_method_16_code 38 = .ok (.if_icmp .gt 16, 3) := by decide +kernel
theorem d4_41 : decode jdk_52_method_16_code 41 = .ok (.aload 5, 2) := by decide +kernel
theorem d4_43 : decode jdk_52_method_16_code 43 = .ok (.iconst 0, 1) := by decide +kernel
theorem d4_44 : decode jdk_52_method_16_code 44 = .ok (.aload_n 3, 1) := by decide +kernel
theorem d4_45 : decode jdk_52_method_16_code 45 = .ok (.iconst 0, 1) := by decide +kernel
theorem d4_46 : decode jdk_52_method_16_code 46 = .ok (.iload_n 2, 1) := by decide +kernel
theorem d4_47 : decode jdk_52_method_16_code 47 = .ok (.invokestatic 123, 3) := by decide +kernel
theorem d4_50 : decode jdk_52_method_16_code 50 = .ok (.iload_n 2, 1) := by decide +kernel
theorem d4_51 : decode jdk_52_method_16_code 51 = .ok (.if_icmp .eq 6, 3) := by decide +kernel
theorem d4_54 : decode jdk_52_method_16_code 54 = .ok (.aload 5, 2) := by decide +kernel
theorem d4_56 : decode jdk_52_method_16_code 56 = .ok (.areturn, 1) := by decide +kernel
theorem d4_57 : decode jdk_52_method_16_code 57 = .ok (.aload_n 3, 1) := by decide +kernel
theorem d4_58 : decode jdk_52_method_16_code 58 = .ok (.areturn, 1) := by decide +kernel
theorem pn_4 : plainName "java/lang/StringUTF16" = true := by first | (simp [plainName, overriddenIn]; done) | decide +kernel
theorem ef_4 (m : MethodId) (x0 : Addr) (x1 : Int32) (x2 : Int32) : entryFrame m #[(.ref x0), (.int x1), (.int x2)] 6 = mkF m 0 #[.val (.ref x0), .val (.int x1), .val (.int x2), .unset, .unset, .unset] [] := by first | (simp [entryFrame, mkF, argsToLocals, Value.category]; done) | rfl
set_option maxRecDepth 65536 in
set_option maxHeartbeats 40000000 in
theorem rm3 (l : Launch) (Z : State) (a0 : Array Value) (hw : ∀ d ∈ tables_1, d.before a0 Z = true) (ws : List Jvm.Cond) (a1 : Addr) (kc : ClassId) (v0 : Int32) (h0 : Heap) (n0 : Nat) (Z0 : n0 ≤ h0.size) (Vc : Arv Z h0 a1 kc .char (1 : Int32) [(.int v0)] (.int (0 : Int32))) (hb1 : ¬ (255 : Int32) < v0) :
    MetFree l (⟨"java/lang/StringUTF16", "compress", "([CII)[B"⟩ : MethodName) (head1 (Jvm.Cond.code (⟨"java/lang/StringUTF16", "compress", "([CII)[B"⟩ : MethodName) jdk_52_method_16_code 6 (some (.array .byte)) :: ws) ({ frames := 1, cells := 1, slots := 1, locals := 18 } : Room)) (fun a U => a = #[(.ref a1), (.int (0 : Int32)), (.int (1 : Int32))] ∧ Z.Warmed39 U.vm ∧ U.heap = h0) (fun _ _ _ _ _ => True) (fun _ U o U' => ∃ v L, o = .returned v ∧ own_Q3 Z a1 v0 h0 n0 v U'.heap L ∧ FrameEnd U o U' L ({ frames := 1, cells := 1, slots := 1, locals := 18 } : Room).cells ({ frames := 1, cells := 1, slots := 1, locals := 18 } : Room).slots) := by
  refine MetFree.of_bodySF (plainFor_of_name pn_4) hisR ?_
  intro p e s m args below meth c s₁ Bd hml0 hP hK
  obtain ⟨rfl, hZ, hh⟩ := hP
  have hx := Bd.exec
  have hby := Bd.bytes
  have hml : c.maxLocals = 6 := hml0
  have hown : s.vm.findClass "java/lang/StringUTF16" = some m.cls := findClass_of_methodNamed Bd.named
  have hnm := (name_of_methodNamed Bd.named Bd.method).1
  have X0 : Stand p l e ({ frames := 1, cells := 1, slots := 1, locals := 18 } : Room) s m #[(.ref a1), (.int (0 : Int32)), (.int (1 : Int32))] below meth c s₁ [] 0 0 := Stand.of_body Bd
  have e0 : s₁.heap = h0 := by rw [← hh, Bd.state]; rfl
  have N0 := Fr.nil n0
  have pre0 : ∀ tq, Steps p.tables e below (s₁.setTop (mkF m 0 #[.val (.ref a1), .val (.int (0 : Int32)), .val (.int (1 : Int32)), .unset, .unset, .unset] [])) tq → Steps p.tables e below (s₁.setTop (entryFrame m #[(.ref a1), (.int (0 : Int32)), (.int (1 : Int32))] 6)) tq := fun tq k => castTop (ef_4 m a1 (0 : Int32) (1 : Int32)) k
  obtain ⟨T1, h1, k1, X1, e1, E1, A1, st1⟩ := newP X0 hx hZ (hw _ (List.mem_of_getElem? (i := 19) rfl)) e0 (g := (mkF m 1 #[.val (.ref a1), .val (.int (0 : Int32)), .val (.int (1 : Int32)), .unset, .unset, .unset] [(.int (1 : Int32))])) rfl (hb hby d4_1) rfl (by decide) (cap := 1) (by decide) (by decide) (by decide) (by decide)
  obtain ⟨b1, g1⟩ : ∃ z, z = h0.size := ⟨_, rfl⟩
  rw [← g1] at A1 st1
  have ne_a1_b1 : a1 ≠ b1 := Nat.ne_of_lt (Nat.lt_of_lt_of_le Vc.lt (Nat.le_of_eq g1.symm))
  have g_b1 : n0 ≤ b1 := Nat.le_trans Z0 (Nat.le_of_eq g1.symm)
  have sz_b1 : h0.size ≤ b1 := Nat.le_trans (Keep.refl h0 []).1 (Nat.le_of_eq g1.symm)
  have f2 := Vc.ext E1
  have z3 := Nat.le_trans Z0 E1.1
  have kp4 := (Keep.refl h0 []).ext E1
  have V_b1 : Arv Z h1 b1 k1 .byte (1 : Int32) [(.int (0 : Int32))] (.int (0 : Int32)) := (Arv.new A1 (by decide)).pad (pad_rep [] (.int (0 : Int32)) 1)
  obtain ⟨_, _, ⟨T5, L5, k5, n5⟩, -, X5, ⟨Lc5, hQ5, l5, y5, z5⟩, st5⟩ := Jvm.LawKit.callS X1 hx (y := (⟨"java/lang/StringUTF16", "compress", "([CI[BII)I"⟩ : MethodName)) hown (mvT hZ (hw _ (List.mem_of_getElem? (i := 20) rfl))) (mvT hZ (hw _ (List.mem_of_getElem? (i := 21) rfl))) (mvT hZ (hw _ (List.mem_of_getElem? (i := 17) rfl))) (mvT hZ (hw _ (List.mem_of_getElem? (i := 22) rfl))) (by decide) (backOf (W := 0) (rm5 l Z a0 hw [] a1 b1 kc k1 v0 h1 n0 z3 f2 V_b1 ne_a1_b1 g_b1 hb1) hZ (hw _ (List.mem_of_getElem? (i := 22) rfl)) (hw _ (List.mem_of_getElem? (i := 17) rfl)) (by decide) (by decide)) (g := (mkF m 9 #[.val (.ref a1), .val (.int (0 : Int32)), .val (.int (1 : Int32)), .val (.ref b1), .unset, .unset] [(.int (1 : Int32)), (.int (0 : Int32)), (.ref b1), (.int (0 : Int32)), (.ref a1)])) rfl (by rw [hml]; rfl) (argsL := [(.ref a1), (.int (0 : Int32)), (.ref b1), (.int (0 : Int32)), (.int (1 : Int32))]) (rest := []) (lenOf pd_3 rfl) rfl (by show 2 * 0 + _ ≤ _; exact Nat.le_of_eq rfl) (hb hby d4_9) (fun _ _ => ⟨rfl, e1, (by decide : 1 + 0 ≤ _), (by decide : 1 + 0 ≤ _)⟩)
  dsimp only [Pt.U, Pt.locs, Pt.cells, Pt.slots] at X5 l5 y5 z5 st5 hQ5
  subst l5 y5 z5
  obtain ⟨rfl, N5q, K5, Vb5⟩ := hQ5
  have N5 := Fr.app N0 N5q
  have f6 := f2.keep K5 (ninS ne_a1_b1 nin0)
  have z7 := Nat.le_trans z3 K5.1
  have kp8 := Keep.trans kp4 K5 (allS (Or.inr sz_b1) all0)
  obtain ⟨fs, hr, hrun, hended, hW, hsame⟩ := X5.leave (v := some (.ref b1)) (fun h => by rw [Bd.returns] at h; cases h)
  refine ⟨_, _, pre0 _ ?_, hrun, hended, _, _, rfl, ?_, ⟨_, rfl⟩, hW, hsame.mono (by decide) (by decide)⟩
  · show Steps p.tables e below (s₁.setTop (mkF m 0 #[.val (.ref a1), .val (.int (0 : Int32)), .val (.int (1 : Int32)), .unset, .unset, .unset] [])) _
    refine XS.iloadN X0.here hx rfl (hb hby d4_0) rfl ?_
    show Steps p.tables e below (s₁.setTop (mkF m 1 #[.val (.ref a1), .val (.int (0 : Int32)), .val (.int (1 : Int32)), .unset, .unset, .unset] [(.int (1 : Int32))])) _
    refine st1 _ ?_
    show Steps p.tables e below (T1.setTop (mkF m 3 #[.val (.ref a1), .val (.int (0 : Int32)), .val (.int (1 : Int32)), .unset, .unset, .unset] [(.ref b1)])) _
    refine XS.astoreN X1.here hx rfl (hb hby d4_3) rfl rfl (l' := #[.val (.ref a1), .val (.int (0 : Int32)), .val (.int (1 : Int32)), .val (.ref b1), .unset, .unset]) rfl ?_
    show Steps p.tables e below (T1.setTop (mkF m 4 #[.val (.ref a1), .val (.int (0 : Int32)), .val (.int (1 : Int32)), .val (.ref b1), .unset, .unset] [])) _
    refine XS.aloadN X1.here hx rfl (hb hby d4_4) rfl rfl ?_
    show Steps p.tables e below (T1.setTop (mkF m 5 #[.val (.ref a1), .val (.int (0 : Int32)), .val (.int (1 : Int32)), .val (.ref b1), .unset, .unset] [(.ref a1)])) _
    refine XS.iloadN X1.here hx rfl (hb hby d4_5) rfl ?_
    show Steps p.tables e below (T1.setTop (mkF m 6 #[.val (.ref a1), .val (.int (0 : Int32)), .val (.int (1 : Int32)), .val (.ref b1), .unset, .unset] [(.int (0 : Int32)), (.ref a1)])) _
    refine XS.aloadN X1.here hx rfl (hb hby d4_6) rfl rfl ?_
    show Steps p.tables e below (T1.setTop (mkF m 7 #[.val (.ref a1), .val (.int (0 : Int32)), .val (.int (1 : Int32)), .val (.ref b1), .unset, .unset] [(.ref b1), (.int (0 : Int32)), (.ref a1)])) _
    refine XS.iconst X1.here hx rfl (hb hby d4_7) ?_
    show Steps p.tables e below (T1.setTop (mkF m 8 #[.val (.ref a1), .val (.int (0 : Int32)), .val (.int (1 : Int32)), .val (.ref b1), .unset, .unset] [(.int (0 : Int32)), (.ref b1), (.int (0 : Int32)), (.ref a1)])) _
    refine XS.iloadN X1.here hx rfl (hb hby d4_8) rfl ?_
    show Steps p.tables e below (T1.setTop (mkF m 9 #[.val (.ref a1), .val (.int (0 : Int32)), .val (.int (1 : Int32)), .val (.ref b1), .unset, .unset] [(.int (1 : Int32)), (.int (0 : Int32)), (.ref b1), (.int (0 : Int32)), (.ref a1)])) _
    refine st5 _ ?_
    show Steps p.tables e below (T5.setTop (mkF m 12 #[.val (.ref a1), .val (.int (0 : Int32)), .val (.int (1 : Int32)), .val (.ref b1), .unset, .unset] [(.int (1 : Int32))])) _
    refine XS.istore X5.here hx rfl (hb hby d4_12) rfl (l' := #[.val (.ref a1), .val (.int (0 : Int32)), .val (.int (1 : Int32)), .val (.ref b1), .val (.int (1 : Int32)), .unset]) rfl ?_
    show Steps p.tables e below (T5.setTop (mkF m 14 #[.val (.ref a1), .val (.int (0 : Int32)), .val (.int (1 : Int32)), .val (.ref b1), .val (.int (1 : Int32)), .unset] [])) _
    refine XS.iload X5.here hx rfl (hb hby d4_14) rfl ?_
    show Steps p.tables e below (T5.setTop (mkF m 16 #[.val (.ref a1), .val (.int (0 : Int32)), .val (.int (1 : Int32)), .val (.ref b1), .val (.int (1 : Int32)), .unset] [(.int (1 : Int32))])) _
    refine XS.iloadN X5.here hx rfl (hb hby d4_16) rfl ?_
    show Steps p.tables e below (T5.setTop (mkF m 17 #[.val (.ref a1), .val (.int (0 : Int32)), .val (.int (1 : Int32)), .val (.ref b1), .val (.int (1 : Int32)), .unset] [(.int (1 : Int32)), (.int (1 : Int32))])) _
    refine XS.icmpYes X5.here hx rfl (pc0 := 17) (pc' := 57) rfl (hb hby d4_17) rfl (teq (rfl : (1 : Int32) = (1 : Int32))).1 (by decide) (by decide) ?_
    show Steps p.tables e below (T5.setTop (mkF m 57 #[.val (.ref a1), .val (.int (0 : Int32)), .val (.int (1 : Int32)), .val (.ref b1), .val (.int (1 : Int32)), .unset] [])) _
    refine XS.aloadN X5.here hx rfl (hb hby d4_57) rfl rfl ?_
    show Steps p.tables e below (T5.setTop (mkF m 58 #[.val (.ref a1), .val (.int (0 : Int32)), .val (.int (1 : Int32)), .val (.ref b1), .val (.int (1 : Int32)), .unset] [(.ref b1)])) _
    exact retOut X5 hx Bd.returns rfl (Or.inr (Or.inr (Or.inr (Or.inr ⟨rfl, rfl, rfl⟩)))) (hb hby d4_58) hr
  · show own_Q3 Z a1 v0 h0 n0 _ T5.heap _
    exact ⟨b1, k1, rfl, N5, kp8, sz_b1, Vb5⟩
theorem d6_0 : decode jdk_52_method_15_code 0 = .ok (.iload_n 1, 1) := by decide +kernel
theorem d6_1 : decode jdk_52_method_15_code 1 = .ok (.aload_n 0, 1) := by decide +kernel
theorem d6_2 : decode jdk_52_method_15_code 2 = .ok (.arraylength, 1) := by decide +kernel
theorem d6_3 : decode jdk_52_method_15_code 3 = .ok (.isub, 1) := by decide +kernel
theorem d6_4 : decode jdk_52_method_15_code 4 = .ok (.bipush 31, 2) := by decide +kernel
theorem d6_6 : decode jdk_52_method_15_code 6 = .ok (.iushr, 1) := by decide +kernel
theorem d6_7 : decode jdk_52_method_15_code 7 = .ok (.i2b, 1) := by decide +kernel
theorem d6_8 : decode jdk_52_method_15_code 8 = .ok (.ireturn, 1) := by decide +kernel
theorem pn_6 : plainName "java/lang/StringUTF16" = true := by first | (simp [plainName, overriddenIn]; done) | decide +kernel
theorem ef_6 (m : MethodId) (x0 : Addr) (x1 : Int32) : entryFrame m #[(.ref x0), (.int x1)] 2 = mkF m 0 #[.val (.ref x0), .val (.int x1)] [] := by first | (simp [entryFrame, mkF, argsToLocals, Value.category]; done) | rfl
set_option maxRecDepth 65536 in
set_option maxHeartbeats 40000000 in
theorem rmc (l : Launch) (Z : State) (a0 : Array Value) (hw : ∀ d ∈ tables_1, d.before a0 Z = true) (ws : List Jvm.Cond) (a1 : Addr) (kb : ClassId) (u0 : Value) (h0 : Heap) (n0 : Nat) (Z0 : n0 ≤ h0.size) (Vb : Arv Z h0 a1 kb .byte (1 : Int32) [u0] (.int (0 : Int32))) :
    MetFree l (⟨"java/lang/StringUTF16", "coderFromArrayLen", "([BI)B"⟩ : MethodName) (head1 (Jvm.Cond.code (⟨"java/lang/StringUTF16", "coderFromArrayLen", "([BI)B"⟩ : MethodName) jdk_52_method_15_code 2 (some .byte) :: ws) ({ frames := 0, cells := 0, slots := 0, locals := 0 } : Room)) (fun a U => a = #[(.ref a1), (.int (1 : Int32))] ∧ Z.Warmed39 U.vm ∧ U.heap = h0) (fun _ _ _ _ _ => True) (fun _ U o U' => ∃ v L, o = .returned v ∧ own_Qc Z a1 h0 n0 v U'.heap L ∧ FrameEnd U o U' L ({ frames := 0, cells := 0, slots := 0, locals := 0 } : Room).cells ({ frames := 0, cells := 0, slots := 0, locals := 0 } : Room).slots) := by
  refine MetFree.of_bodySF (plainFor_of_name pn_6) hisR ?_
  intro p e s m args below meth c s₁ Bd hml0 hP hK
  obtain ⟨rfl, hZ, hh⟩ := hP
  have hx := Bd.exec
  have hby := Bd.bytes
  have hml : c.maxLocals = 2 := hml0
  have hown : s.vm.findClass "java/lang/StringUTF16" = some m.cls := findClass_of_methodNamed Bd.named
  have hnm := (name_of_methodNamed Bd.named Bd.method).1
  have X0 : Stand p l e ({ frames := 0, cells := 0, slots := 0, locals := 0 } : Room) s m #[(.ref a1), (.int (1 : Int32))] below meth c s₁ [] 0 0 := Stand.of_body Bd
  have e0 : s₁.heap = h0 := by rw [← hh, Bd.state]; rfl
  have N0 := Fr.nil n0
  have pre0 : ∀ tq, Steps p.tables e below (s₁.setTop (mkF m 0 #[.val (.ref a1), .val (.int (1 : Int32))] [])) tq → Steps p.tables e below (s₁.setTop (entryFrame m #[(.ref a1), (.int (1 : Int32))] 2)) tq := fun tq k => castTop (ef_6 m a1 (1 : Int32)) k
  obtain ⟨clq1, Arq1, cq1, Sq1, nq1, Hq1, Gq1⟩ := id Vb
  obtain ⟨fs, hr, hrun, hended, hW, hsame⟩ := X0.leave (v := some (.int (0 : Int32))) (fun h => by rw [Bd.returns] at h; cases h)
  refine ⟨_, _, pre0 _ ?_, hrun, hended, _, _, rfl, ?_, ⟨_, rfl⟩, hW, hsame.mono (by decide) (by decide)⟩
  · show Steps p.tables e below (s₁.setTop (mkF m 0 #[.val (.ref a1), .val (.int (1 : Int32))] [])) _
    refine XS.iloadN X0.here hx rfl (hb hby d6_0) rfl ?_
    show Steps p.tables e below (s₁.setTop (mkF m 1 #[.val (.ref a1), .val (.int (1 : Int32))] [(.int (1 : Int32))])) _
    refine XS.aloadN X0.here hx rfl (hb hby d6_1) rfl rfl ?_
    show Steps p.tables e below (s₁.setTop (mkF m 2 #[.val (.ref a1), .val (.int (1 : Int32))] [(.ref a1), (.int (1 : Int32))])) _
    refine X0.arraylength hx (by rw [e0]; exact Arq1.1) (State.isArrayOf_alike hZ.alike Arq1.2.1) (g := (mkF m 2 #[.val (.ref a1), .val (.int (1 : Int32))] [(.ref a1), (.int (1 : Int32))])) rfl rfl (hb hby d6_2) _ ?_
    rw [len_of Sq1 nq1]
    show Steps p.tables e below (s₁.setTop (mkF m 3 #[.val (.ref a1), .val (.int (1 : Int32))] [(.int (1 : Int32)), (.int (1 : Int32))])) _
    refine XS.isub X0.here hx rfl (hb hby d6_3) rfl ?_
    show Steps p.tables e below (s₁.setTop (mkF m 4 #[.val (.ref a1), .val (.int (1 : Int32))] [(.int (0 : Int32))])) _
    refine XS.bipush X0.here hx rfl (hb hby d6_4) ?_
    show Steps p.tables e below (s₁.setTop (mkF m 6 #[.val (.ref a1), .val (.int (1 : Int32))] [(.int (31 : Int32)), (.int (0 : Int32))])) _
    refine XS.iushr X0.here hx rfl (hb hby d6_6) rfl ?_
    show Steps p.tables e below (s₁.setTop (mkF m 7 #[.val (.ref a1), .val (.int (1 : Int32))] [(.int (((0 : Int32).toUInt32 >>> ((31 : Int32) &&& 31).toUInt32).toInt32))])) _
    refine XS.i2b X0.here hx rfl (hb hby d6_7) rfl ?_
    show Steps p.tables e below (s₁.setTop (mkF m 8 #[.val (.ref a1), .val (.int (1 : Int32))] [(.int (0 : Int32))])) _
    exact retN X0 hx (t := .byte) Bd.returns (by simp) (hb hby d6_8) hr
  · show own_Qc Z a1 h0 n0 _ s₁.heap _
    rw [e0]
    exact ⟨rfl, N0, rfl⟩
theorem d2_0 : decode jdk_42_method_149_code 0 = .ok (.aload_n 0, 1) := by decide +kernel
theorem d2_1 : decode jdk_42_method_149_code 1 = .ok (.invokespecial 1, 3) := by decide +kernel
theorem d2_4 : decode jdk_42_method_149_code 4 = .ok (.iload_n 3, 1) := by decide +kernel
theorem d2_5 : decode jdk_42_method_149_code 5 = .ok (.ifCond .ne 22, 3) := by decide +kernel
theorem d2_8 : decode jdk_42_method_149_code 8 = .ok (.aload_n 0, 1) := by decide +kernel
theorem d2_9 : decode jdk_42_method_149_code 9 = .ok (.ldc 7, 2) := by decide +kernel
theorem d2_11 : decode jdk_42_method_149_code 11 = .ok (.getfield 9, 3) := by decide +kernel
theorem d2_14 : decode jdk_42_method_149_code 14 = .ok (.putfield 9, 3) := by decide +kernel
theorem d2_17 : decode jdk_42_method_149_code 17 = .ok (.aload_n 0, 1) := by decide +kernel
theorem d2_18 : decode jdk_42_method_149_code 18 = .ok (.ldc 7, 2) := by decide +kernel
theorem d2_20 : decode jdk_42_method_149_code 20 = .ok (.getfield 15, 3) := by decide +kernel
theorem d2_23 : decode jdk_42_method_149_code 23 = .ok (.putfield 15, 3) := by decide +kernel
theorem d2_26 : decode jdk_42_method_149_code 26 = .ok (.return_, 1) := by decide +kernel
theorem d2_27 : decode jdk_42_method_149_code 27 = .ok (.getstatic 38, 3) := by decide +kernel
theorem d2_30 : decode jdk_42_method_149_code 30 = .ok (.ifCond .eq 28, 3) := by decide +kernel
theorem d2_33 : decode jdk_42_method_149_code 33 = .ok (.aload_n 1, 1) := by decide +kernel
theorem d2_34 : decode jdk_42_method_149_code 34 = .ok (.iload_n 2, 1) := by decide +kernel
theorem d2_35 : decode jdk_42_method_149_code 35 = .ok (.iload_n 3, 1) := by decide +kernel
theorem d2_36 : decode jdk_42_method_149_code 36 = .ok (.invokestatic 177, 3) := by decide +kernel
theorem d2_39 : decode jdk_42_method_149_code 39 = .ok (.astore 5, 2) := by decide +kernel
theorem d2_41 : decode jdk_42_method_149_code 41 = .ok (.aload_n 0, 1) := by decide +kernel
theorem d2_42 : decode jdk_42_method_149_code 42 = .ok (.aload 5, 2) := by decide +kernel
theorem d2_44 : decode jdk_42_method_149_code 44 = .ok (.iload_n 3, 1) := by decide +kernel
theorem d2_45 : decode jdk_42_method_149_code 45 = .ok (.invokestatic 47, 3) := by decide +kernel
theorem d2_48 : decode jdk_42_method_149_code 48 = .ok (.putfield 15, 3) := by decide +kernel
theorem d2_51 : decode jdk_42_method_149_code 51 = .ok (.aload_n 0, 1) := by decide +kernel
theorem d2_52 : decode jdk_42_method_149_code 52 = .ok (.aload 5, 2) := by decide +kernel
theorem d2_54 : decode jdk_42_method_149_code 54 = .ok (.putfield 9, 3) := by decide +kernel
theorem d2_57 : decode jdk_42_method_149_code 57 = .ok (.return_, 1) := by decide +kernel
theorem d2_58 : decode jdk_42_method_149_code 58 = .ok (.aload_n 0, 1) := by decide +kernel
theorem d2_59 : decode jdk_42_method_149_code 59 = .ok (.iconst 1, 1) := by decide +kernel
theorem d2_60 : decode jdk_42_method_149_code 60 = .ok (.putfield 15, 3) := by decide +kernel
theorem d2_63 : decode jdk_42_method_149_code 63 = .ok (.aload_n 0, 1) := by decide +kernel
theorem d2_64 : decode jdk_42_method_149_code 64 = .ok (.aload_n 1, 1) := by decide +kernel
theorem d2_65 : decode jdk_42_method_149_code 65 = .ok (.iload_n 2, 1) := by decide +kernel
theorem d2_66 : decode jdk_42_method_149_code 66 = .ok (.iload_n 3, 1) := by decide +kernel
theorem d2_67 : decode jdk_42_method_149_code 67 = .ok (.invokestatic 180, 3) := by decide +kernel
theorem d2_70 : decode jdk_42_method_149_code 70 = .ok (.putfield 9, 3) := by decide +kernel
theorem d2_73 : decode jdk_42_method_149_code 73 = .ok (.return_, 1) := by decide +kernel
theorem pn_2 : plainName "java/lang/String" = true := by first | (simp [plainName, overriddenIn]; done) | decide +kernel
theorem ef_2_vvvvn (m : MethodId) (x0 : Addr) (x1 : Addr) (x2 : Int32) (x3 : Int32) : entryFrame m #[(.ref x0), (.ref x1), (.int x2), (.int x3), .null] 6 = mkF m 0 #[.val (.ref x0), .val (.ref x1), .val (.int x2), .val (.int x3), .val .null, .unset] [] := by first | (simp [entryFrame, mkF, argsToLocals, Value.category]; done) | rfl
set_option maxRecDepth 65536 in
set_option maxHeartbeats 40000000 in
theorem rm4 (l : Launch) (Z : State) (a0 : Array Value) (hw : ∀ d ∈ tables_1, d.before a0 Z = true) (ws : List Jvm.Cond) (a1 a2 : Addr) (kc : ClassId) (v0 w : Int32) (h0 : Heap) (n0 : Nat) (Z0 : n0 ≤ h0.size) (E_a1 : Exa Z h0 a1 "java/lang/String") (F1 : Fld Z h0 a1 "java/lang/String" "value" "[B" .null) (F2 : Fld Z h0 a1 "java/lang/String" "coder" "B" (.int (0 : Int32))) (g_a1 : n0 ≤ a1) (hne : a2 ≠ a1) (S0 : Sta Z h0 "java/lang/String" "COMPACT_STRINGS" "Z" (.int w)) (hw0 : ¬ w = (0 : Int32)) (hb1 : ¬ (255 : Int32) < v0) (Vc : Arv Z h0 a2 kc .char (1 : Int32) [(.int v0)] (.int (0 : Int32))) :
    MetFree l (⟨"java/lang/String", "<init>", "([CIILjava/lang/Void;)V"⟩ : MethodName) (head1 (Jvm.Cond.code (⟨"java/lang/String", "<init>", "([CIILjava/lang/Void;)V"⟩ : MethodName) jdk_42_method_149_code 6 none :: ws) ({ frames := 2, cells := 1, slots := 1, locals := 36 } : Room)) (fun a U => a = #[(.ref a1), (.ref a2), (.int (0 : Int32)), (.int (1 : Int32)), .null] ∧ Z.Warmed39 U.vm ∧ U.heap = h0) (fun _ _ _ _ _ => True) (fun _ U o U' => ∃ v L, o = .returned v ∧ own_QC4 Z a1 a2 h0 n0 v U'.heap L ∧ FrameEnd U o U' L ({ frames := 2, cells := 1, slots := 1, locals := 36 } : Room).cells ({ frames := 2, cells := 1, slots := 1, locals := 36 } : Room).slots) := by
  refine MetFree.of_bodySF (plainFor_of_name pn_2) hisR ?_
  intro p e s m args below meth c s₁ Bd hml0 hP hK
  obtain ⟨rfl, hZ, hh⟩ := hP
  have hx := Bd.exec
  have hby := Bd.bytes
  have hml : c.maxLocals = 6 := hml0
  have hown : s.vm.findClass "java/lang/String" = some m.cls := findClass_of_methodNamed Bd.named
  have hnm := (name_of_methodNamed Bd.named Bd.method).1
  have X0 : Stand p l e ({ frames := 2, cells := 1, slots := 1, locals := 36 } : Room) s m #[(.ref a1), (.ref a2), (.int (0 : Int32)), (.int (1 : Int32)), .null] below meth c s₁ [] 0 0 := Stand.of_body Bd
  have e0 : s₁.heap = h0 := by rw [← hh, Bd.state]; rfl
  have N0 := Fr.nil n0
  have pre0 : ∀ tq, Steps p.tables e below (s₁.setTop (mkF m 0 #[.val (.ref a1), .val (.ref a2), .val (.int (0 : Int32)), .val (.int (1 : Int32)), .val .null, .unset] [])) tq → Steps p.tables e below (s₁.setTop (entryFrame m #[(.ref a1), (.ref a2), (.int (0 : Int32)), (.int (1 : Int32)), .null] 6)) tq := fun tq k => castTop (ef_2_vvvvn m a1 a2 (0 : Int32) (1 : Int32)) k
  obtain ⟨T1, X1, e1, st1⟩ := initO X0 hx hZ hown (hw _ (List.mem_of_getElem? (i := 11) rfl)) (hw _ (List.mem_of_getElem? (i := 12) rfl)) (hw _ (List.mem_of_getElem? (i := 13) rfl)) e0 (g := (mkF m 1 #[.val (.ref a1), .val (.ref a2), .val (.int (0 : Int32)), .val (.int (1 : Int32)), .val .null, .unset] [(.ref a1)])) rfl (by rw [hml]; rfl) rfl (hb hby d2_1) (by decide) (W := 0) (by show 2 * 0 + _ ≤ _; exact Nat.le_of_eq rfl) (by decide)
  obtain ⟨T2, X2, e2, st2⟩ := getS2 X1 hx hZ hown (host := "") (Or.inl (hw _ (List.mem_of_getElem? (i := 14) rfl))) Via.refl e1 S0 (g := (mkF m 27 #[.val (.ref a1), .val (.ref a2), .val (.int (0 : Int32)), .val (.int (1 : Int32)), .val .null, .unset] [])) rfl (hb hby d2_27)
  obtain ⟨_, _, ⟨T3, L3, k3, n3⟩, -, X3, ⟨Lc3, hQ3, l3, y3, z3⟩, st3⟩ := Jvm.LawKit.callS X2 hx (y := (⟨"java/lang/StringUTF16", "compress", "([CII)[B"⟩ : MethodName)) hown (mvT hZ (hw _ (List.mem_of_getElem? (i := 15) rfl))) (mvT hZ (hw _ (List.mem_of_getElem? (i := 16) rfl))) (mvT hZ (hw _ (List.mem_of_getElem? (i := 17) rfl))) (mvT hZ (hw _ (List.mem_of_getElem? (i := 18) rfl))) (by decide) (backOf (W := 0) (rm3 l Z a0 hw [] a2 kc v0 h0 n0 Z0 Vc hb1) hZ (hw _ (List.mem_of_getElem? (i := 18) rfl)) (hw _ (List.mem_of_getElem? (i := 17) rfl)) (by decide) (by decide)) (g := (mkF m 36 #[.val (.ref a1), .val (.ref a2), .val (.int (0 : Int32)), .val (.int (1 : Int32)), .val .null, .unset] [(.int (1 : Int32)), (.int (0 : Int32)), (.ref a2)])) rfl (by rw [hml]; rfl) (argsL := [(.ref a2), (.int (0 : Int32)), (.int (1 : Int32))]) (rest := []) (lenOf pd_2 rfl) rfl (by show 2 * 0 + _ ≤ _; exact Nat.le_of_eq rfl) (hb hby d2_36) (fun _ _ => ⟨rfl, e2, (by decide : 0 + 1 ≤ _), (by decide : 0 + 1 ≤ _)⟩)
  dsimp only [Pt.U, Pt.locs, Pt.cells, Pt.slots] at X3 l3 y3 z3 st3 hQ3
  subst l3 y3 z3
  obtain ⟨b3, kb3, rfl, N3q, K3, gb3, Vb3⟩ := hQ3
  have N3 := Fr.app N0 N3q
  have ne_a1_b3 : a1 ≠ b3 := Nat.ne_of_lt (Nat.lt_of_lt_of_le E_a1.lt gb3)
  have ne_a2_b3 : a2 ≠ b3 := Nat.ne_of_lt (Nat.lt_of_lt_of_le Vc.lt gb3)
  have g_b3 : n0 ≤ b3 := Nat.le_trans Z0 gb3
  have sz_b3 : h0.size ≤ b3 := Nat.le_trans (Keep.refl h0 [a1]).1 gb3
  have f4 := E_a1.keep K3
  have f5 := F1.keep K3 nin0
  have f6 := F2.keep K3 nin0
  have f7 := own_sta_keep S0 K3
  have f8 := Vc.keep K3 nin0
  have z9 := Nat.le_trans Z0 K3.1
  have kp10 := Keep.trans (Keep.refl h0 [a1]) K3 all0
  obtain ⟨_, _, ⟨T11, L11, k11, n11⟩, -, X11, ⟨Lc11, hQ11, l11, y11, z11⟩, st11⟩ := Jvm.LawKit.callS X3 hx (y := (⟨"java/lang/StringUTF16", "coderFromArrayLen", "([BI)B"⟩ : MethodName)) hown (mvT hZ (hw _ (List.mem_of_getElem? (i := 23) rfl))) (mvT hZ (hw _ (List.mem_of_getElem? (i := 24) rfl))) (mvT hZ (hw _ (List.mem_of_getElem? (i := 17) rfl))) (mvT hZ (hw _ (List.mem_of_getElem? (i := 25) rfl))) (by decide) (backOf (W := 1) (rmc l Z a0 hw [] b3 kb3 (.int v0.toInt8.toInt32.toInt8.toInt32) T3.heap n0 z9 Vb3) hZ (hw _ (List.mem_of_getElem? (i := 25) rfl)) (hw _ (List.mem_of_getElem? (i := 17) rfl)) (by decide) (by decide)) (g := (mkF m 45 #[.val (.ref a1), .val (.ref a2), .val (.int (0 : Int32)), .val (.int (1 : Int32)), .val .null, .val (.ref b3)] [(.int (1 : Int32)), (.ref b3), (.ref a1)])) rfl (by rw [hml]; rfl) (argsL := [(.ref b3), (.int (1 : Int32))]) (rest := [(.ref a1)]) (lenOf pd_4 rfl) rfl (by show 2 * 0 + _ ≤ _; exact Nat.le_of_eq rfl) (hb hby d2_45) (fun _ _ => ⟨rfl, rfl, (by decide : 1 + 0 ≤ _), (by decide : 1 + 0 ≤ _)⟩)
  dsimp only [Pt.U, Pt.locs, Pt.cells, Pt.slots] at X11 l11 y11 z11 st11 hQ11
  subst l11 y11 z11
  obtain ⟨rfl, N11q, e11⟩ := hQ11
  have N11 := Fr.app N3 N11q
  obtain ⟨T12, h12, X12, e12, W12, st12⟩ := putFN X11 hx hZ hown (hw _ (List.mem_of_getElem? (i := 26) rfl)) Via.refl e11 f6 f4 (Or.inr ⟨(hw _ (List.mem_of_getElem? (i := 27) rfl)), rfl, hnm⟩) (hw _ (List.mem_of_getElem? (i := 2) rfl)) (ty := .byte) (v' := .int (0 : Int32).toInt8.toInt32) (by decide) rfl (fits_nar_byte _) (g := (mkF m 48 #[.val (.ref a1), .val (.ref a2), .val (.int (0 : Int32)), .val (.int (1 : Int32)), .val .null, .val (.ref b3)] [(.int (0 : Int32)), (.ref a1)])) rfl rfl (hb hby d2_48)
  have f13 := f4.wr W12
  have f14 := f5.other W12 (Or.inr (slot_ne (Or.inr (hw _ (List.mem_of_getElem? (i := 29) rfl))) (Or.inr (hw _ (List.mem_of_getElem? (i := 27) rfl))) (by decide) (t := (.array .byte)) (t' := .byte) (by decide) (by decide)))
  have f15 := f6.same W12
  have f16 := f7.wr W12
  have f17 := f8.other W12 hne
  have f18 := Vb3.other W12 (Ne.symm ne_a1_b3)
  have kp19 := kp10.wr W12 (Or.inl (List.mem_of_getElem? (i := 0) rfl))
  have z20 := Nat.le_trans z9 (Keep.of_wr W12).1
  have N21 := Fr.snoc X12 N11 g_a1
  obtain ⟨T22, h22, X22, e22, W22, st22⟩ := putF X12 hx hZ hown (host := "") (Or.inl (hw _ (List.mem_of_getElem? (i := 28) rfl))) Via.refl e12 f14 f13 (Or.inr ⟨(hw _ (List.mem_of_getElem? (i := 29) rfl)), rfl, hnm⟩) (hw _ (List.mem_of_getElem? (i := 2) rfl)) (ty := (.array .byte)) (by decide) rfl rfl (g := (mkF m 54 #[.val (.ref a1), .val (.ref a2), .val (.int (0 : Int32)), .val (.int (1 : Int32)), .val .null, .val (.ref b3)] [(.ref b3), (.ref a1)])) rfl rfl (hb hby d2_54)
  have f23 := f13.wr W22
  have f24 := f14.same W22
  have f25 := f15.other W22 (Or.inr (slot_ne (Or.inr (hw _ (List.mem_of_getElem? (i := 27) rfl))) (Or.inr (hw _ (List.mem_of_getElem? (i := 29) rfl))) (by decide) (t := .byte) (t' := (.array .byte)) (by decide) (by decide)))
  have f26 := f16.wr W22
  have f27 := f17.other W22 hne
  have f28 := f18.other W22 (Ne.symm ne_a1_b3)
  have kp29 := kp19.wr W22 (Or.inl (List.mem_of_getElem? (i := 0) rfl))
  have z30 := Nat.le_trans z20 (Keep.of_wr W22).1
  have N31 := Fr.snoc X22 N21 g_a1
  obtain ⟨fs, hr, hrun, hended, hW, hsame⟩ := X22.leave (v := none) (fun _ => rfl)
  refine ⟨_, _, pre0 _ ?_, hrun, hended, _, _, rfl, ?_, ⟨_, rfl⟩, hW, hsame.mono (by decide) (by decide)⟩
  · show Steps p.tables e below (s₁.setTop (mkF m 0 #[.val (.ref a1), .val (.ref a2), .val (.int (0 : Int32)), .val (.int (1 : Int32)), .val .null, .unset] [])) _
    refine XS.aloadN X0.here hx rfl (hb hby d2_0) rfl rfl ?_
    show Steps p.tables e below (s₁.setTop (mkF m 1 #[.val (.ref a1), .val (.ref a2), .val (.int (0 : Int32)), .val (.int (1 : Int32)), .val .null, .unset] [(.ref a1)])) _
    refine st1 _ ?_
    show Steps p.tables e below (T1.setTop (mkF m 4 #[.val (.ref a1), .val (.ref a2), .val (.int (0 : Int32)), .val (.int (1 : Int32)), .val .null, .unset] [])) _
    refine XS.iloadN X1.here hx rfl (hb hby d2_4) rfl ?_
    show Steps p.tables e below (T1.setTop (mkF m 5 #[.val (.ref a1), .val (.ref a2), .val (.int (0 : Int32)), .val (.int (1 : Int32)), .val .null, .unset] [(.int (1 : Int32))])) _
    refine XS.ifYes X1.here hx rfl (pc0 := 5) (pc' := 27) rfl (hb hby d2_5) rfl ((if0 _ _).trans (feq (by decide : ¬ ((1 : Int32) = (0 : Int32)))).2) (by decide) (by decide) ?_
    show Steps p.tables e below (T1.setTop (mkF m 27 #[.val (.ref a1), .val (.ref a2), .val (.int (0 : Int32)), .val (.int (1 : Int32)), .val .null, .unset] [])) _
    refine st2 _ ?_
    show Steps p.tables e below (T2.setTop (mkF m 30 #[.val (.ref a1), .val (.ref a2), .val (.int (0 : Int32)), .val (.int (1 : Int32)), .val .null, .unset] [(.int w)])) _
    refine XS.ifNo X2.here hx rfl (hb hby d2_30) rfl ((if0 _ _).trans (feq hw0).1) ?_
    show Steps p.tables e below (T2.setTop (mkF m 33 #[.val (.ref a1), .val (.ref a2), .val (.int (0 : Int32)), .val (.int (1 : Int32)), .val .null, .unset] [])) _
    refine XS.aloadN X2.here hx rfl (hb hby d2_33) rfl rfl ?_
    show Steps p.tables e below (T2.setTop (mkF m 34 #[.val (.ref a1), .val (.ref a2), .val (.int (0 : Int32)), .val (.int (1 : Int32)), .val .null, .unset] [(.ref a2)])) _
    refine XS.iloadN X2.here hx rfl (hb hby d2_34) rfl ?_
    show Steps p.tables e below (T2.setTop (mkF m 35 #[.val (.ref a1), .val (.ref a2), .val (.int (0 : Int32)), .val (.int (1 : Int32)), .val .null, .unset] [(.int (0 : Int32)), (.ref a2)])) _
    refine XS.iloadN X2.here hx rfl (hb hby d2_35) rfl ?_
    show Steps p.tables e below (T2.setTop (mkF m 36 #[.val (.ref a1), .val (.ref a2), .val (.int (0 : Int32)), .val (.int (1 : Int32)), .val .null, .unset] [(.int (1 : Int32)), (.int (0 : Int32)), (.ref a2)])) _
    refine st3 _ ?_
    show Steps p.tables e below (T3.setTop (mkF m 39 #[.val (.ref a1), .val (.ref a2), .val (.int (0 : Int32)), .val (.int (1 : Int32)), .val .null, .unset] [(.ref b3)])) _
    refine XS.astore X3.here hx rfl (hb hby d2_39) rfl rfl (l' := #[.val (.ref a1), .val (.ref a2), .val (.int (0 : Int32)), .val (.int (1 : Int32)), .val .null, .val (.ref b3)]) rfl ?_
    show Steps p.tables e below (T3.setTop (mkF m 41 #[.val (.ref a1), .val (.ref a2), .val (.int (0 : Int32)), .val (.int (1 : Int32)), .val .null, .val (.ref b3)] [])) _
    refine XS.aloadN X3.here hx rfl (hb hby d2_41) rfl rfl ?_
    show Steps p.tables e below (T3.setTop (mkF m 42 #[.val (.ref a1), .val (.ref a2), .val (.int (0 : Int32)), .val (.int (1 : Int32)), .val .null, .val (.ref b3)] [(.ref a1)])) _
    refine XS.aload X3.here hx rfl (hb hby d2_42) rfl rfl ?_
    show Steps p.tables e below (T3.setTop (mkF m 44 #[.val (.ref a1), .val (.ref a2), .val (.int (0 : Int32)), .val (.int (1 : Int32)), .val .null, .val (.ref b3)] [(.ref b3), (.ref a1)])) _
    refine XS.iloadN X3.here hx rfl (hb hby d2_44) rfl ?_
    show Steps p.tables e below (T3.setTop (mkF m 45 #[.val (.ref a1), .val (.ref a2), .val (.int (0 : Int32)), .val (.int (1 : Int32)), .val .null, .val (.ref b3)] [(.int (1 : Int32)), (.ref b3), (.ref a1)])) _
    refine st11 _ ?_
    show Steps p.tables e below (T11.setTop (mkF m 48 #[.val (.ref a1), .val (.ref a2), .val (.int (0 : Int32)), .val (.int (1 : Int32)), .val .null, .val (.ref b3)] [(.int (0 : Int32)), (.ref a1)])) _
    refine st12 _ ?_
    show Steps p.tables e below (T12.setTop (mkF m 51 #[.val (.ref a1), .val (.ref a2), .val (.int (0 : Int32)), .val (.int (1 : Int32)), .val .null, .val (.ref b3)] [])) _
    refine XS.aloadN X12.here hx rfl (hb hby d2_51) rfl rfl ?_
    show Steps p.tables e below (T12.setTop (mkF m 52 #[.val (.ref a1), .val (.ref a2), .val (.int (0 : Int32)), .val (.int (1 : Int32)), .val .null, .val (.ref b3)] [(.ref a1)])) _
    refine XS.aload X12.here hx rfl (hb hby d2_52) rfl rfl ?_
    show Steps p.tables e below (T12.setTop (mkF m 54 #[.val (.ref a1), .val (.ref a2), .val (.int (0 : Int32)), .val (.int (1 : Int32)), .val .null, .val (.ref b3)] [(.ref b3), (.ref a1)])) _
    refine st22 _ ?_
    show Steps p.tables e below (T22.setTop (mkF m 57 #[.val (.ref a1), .val (.ref a2), .val (.int (0 : Int32)), .val (.int (1 : Int32)), .val .null, .val (.ref b3)] [])) _
    exact X22.returnOut hx Bd.returns (hb hby d2_57) hr
  · show own_QC4 Z a1 a2 h0 n0 _ T22.heap _
    rw [e22]
    exact ⟨rfl, N31, kp29, f23⟩
theorem d1_0 : decode jdk_42_method_3_code 0 = .ok (.aload_n 0, 1) := by decide +kernel
theorem d1_1 : decode jdk_42_method_3_code 1 = .ok (.aload_n 1, 1) := by decide +kernel
theorem d1_2 : decode jdk_42_method_3_code 2 = .ok (.iconst 0, 1) := by decide +kernel
theorem d1_3 : decode jdk_42_method_3_code 3 = .ok (.aload_n 1, 1) := by decide +kernel
theorem d1_4 : decode jdk_42_method_3_code 4 = .ok (.arraylength, 1) := by decide +kernel
theorem d1_5 : decode jdk_42_method_3_code 5 = .ok (.aconst_null, 1) := by decide +kernel
theorem d1_6 : decode jdk_42_method_3_code 6 = .ok (.invokespecial 27, 3) := by decide +kernel
theorem d1_9 : decode jdk_42_method_3_code 9 = .ok (.return_, 1) := by decide +kernel
theorem pn_1 : plainName "java/lang/String" = true := by first | (simp [plainName, overriddenIn]; done) | decide +kernel
theorem ef_1 (m : MethodId) (x0 : Addr) (x1 : Addr) : entryFrame m #[(.ref x0), (.ref x1)] 2 = mkF m 0 #[.val (.ref x0), .val (.ref x1)] [] := by first | (simp [entryFrame, mkF, argsToLocals, Value.category]; done) | rfl
set_option maxRecDepth 65536 in
set_option maxHeartbeats 40000000 in
theorem rm1 (l : Launch) (Z : State) (a0 : Array Value) (hw : ∀ d ∈ tables_1, d.before a0 Z = true) (ws : List Jvm.Cond) (a1 a2 : Addr) (kc : ClassId) (v0 w : Int32) (h0 : Heap) (n0 : Nat) (Z0 : n0 ≤ h0.size) (E_a1 : Exa Z h0 a1 "java/lang/String") (F1 : Fld Z h0 a1 "java/lang/String" "value" "[B" .null) (F2 : Fld Z h0 a1 "java/lang/String" "coder" "B" (.int (0 : Int32))) (g_a1 : n0 ≤ a1) (hne : a2 ≠ a1) (S0 : Sta Z h0 "java/lang/String" "COMPACT_STRINGS" "Z" (.int w)) (hw0 : ¬ w = (0 : Int32)) (hb1 : ¬ (255 : Int32) < v0) (Vc : Arv Z h0 a2 kc .char (1 : Int32) [(.int v0)] (.int (0 : Int32))) :
    MetFree l (⟨"java/lang/String", "<init>", "([C)V"⟩ : MethodName) (head1 (Jvm.Cond.code (⟨"java/lang/String", "<init>", "([C)V"⟩ : MethodName) jdk_42_method_3_code 2 none :: ws) ({ frames := 3, cells := 1, slots := 1, locals := 54 } : Room)) (fun a U => a = #[(.ref a1), (.ref a2)] ∧ Z.Warmed39 U.vm ∧ U.heap = h0) (fun _ _ _ _ _ => True) (fun _ U o U' => ∃ v L, o = .returned v ∧ own_QC4 Z a1 a2 h0 n0 v U'.heap L ∧ FrameEnd U o U' L ({ frames := 3, cells := 1, slots := 1, locals := 54 } : Room).cells ({ frames := 3, cells := 1, slots := 1, locals := 54 } : Room).slots) := by
  refine MetFree.of_bodySF (plainFor_of_name pn_1) hisR ?_
  intro p e s m args below meth c s₁ Bd hml0 hP hK
  obtain ⟨rfl, hZ, hh⟩ := hP
  have hx := Bd.exec
  have hby := Bd.bytes
  have hml : c.maxLocals = 2 := hml0
  have hown : s.vm.findClass "java/lang/String" = some m.cls := findClass_of_methodNamed Bd.named
  have hnm := (name_of_methodNamed Bd.named Bd.method).1
  have X0 : Stand p l e ({ frames := 3, cells := 1, slots := 1, locals := 54 } : Room) s m #[(.ref a1), (.ref a2)] below meth c s₁ [] 0 0 := Stand.of_body Bd
  have e0 : s₁.heap = h0 := by rw [← hh, Bd.state]; rfl
  have N0 := Fr.nil n0
  have pre0 : ∀ tq, Steps p.tables e below (s₁.setTop (mkF m 0 #[.val (.ref a1), .val (.ref a2)] [])) tq → Steps p.tables e below (s₁.setTop (entryFrame m #[(.ref a1), (.ref a2)] 2)) tq := fun tq k => castTop (ef_1 m a1 a2) k
  obtain ⟨clq1, Arq1, cq1, Sq1, nq1, Hq1, Gq1⟩ := id Vc
  obtain ⟨_, _, ⟨T2, L2, k2, n2⟩, -, X2, ⟨Lc2, hQ2, l2, y2, z2⟩, st2⟩ := X0.specialBack hx (y := (⟨"java/lang/String", "<init>", "([CIILjava/lang/Void;)V"⟩ : MethodName)) rfl hown (mvT hZ (hw _ (List.mem_of_getElem? (i := 7) rfl))) (mvT hZ (hw _ (List.mem_of_getElem? (i := 8) rfl))) (mvT hZ (hw _ (List.mem_of_getElem? (i := 10) rfl))) (by decide) (backOf (W := 0) (rm4 l Z a0 hw [] a1 a2 kc v0 w h0 n0 Z0 E_a1 F1 F2 g_a1 hne S0 hw0 hb1 Vc) hZ (hw _ (List.mem_of_getElem? (i := 10) rfl)) (hw _ (List.mem_of_getElem? (i := 3) rfl)) (by decide) (by decide)) (g := (mkF m 6 #[.val (.ref a1), .val (.ref a2)] [.null, (.int (1 : Int32)), (.int (0 : Int32)), (.ref a2), (.ref a1)])) rfl (by rw [hml]; rfl) (Steps.refl _) (a := a1) (argsL := [(.ref a2), (.int (0 : Int32)), (.int (1 : Int32)), .null]) (rest := []) (lenOf pd_1 rfl) rfl (by show 2 * 0 + _ ≤ _; exact Nat.le_of_eq rfl) (hb hby d1_6) (fun _ _ => ⟨rfl, e0, (by decide : 0 + 1 ≤ _), (by decide : 0 + 1 ≤ _)⟩)
  dsimp only [Pt.U, Pt.locs, Pt.cells, Pt.slots] at X2 l2 y2 z2 st2 hQ2
  subst l2 y2 z2
  obtain ⟨rfl, N2q, K2, Eo2⟩ := hQ2
  have N2 := Fr.app N0 N2q
  have f3 := E_a1.keep K2
  have f4 := Vc.keep K2 (ninS hne nin0)
  have z5 := Nat.le_trans Z0 K2.1
  have kp6 := Keep.trans (Keep.refl h0 [a1]) K2 (allS (Or.inl (List.mem_of_getElem? (i := 0) rfl)) all0)
  obtain ⟨fs, hr, hrun, hended, hW, hsame⟩ := X2.leave (v := none) (fun _ => rfl)
  refine ⟨_, _, pre0 _ ?_, hrun, hended, _, _, rfl, ?_, ⟨_, rfl⟩, hW, hsame.mono (by decide) (by decide)⟩
  · show Steps p.tables e below (s₁.setTop (mkF m 0 #[.val (.ref a1), .val (.ref a2)] [])) _
    refine XS.aloadN X0.here hx rfl (hb hby d1_0) rfl rfl ?_
    show Steps p.tables e below (s₁.setTop (mkF m 1 #[.val (.ref a1), .val (.ref a2)] [(.ref a1)])) _
    refine XS.aloadN X0.here hx rfl (hb hby d1_1) rfl rfl ?_
    show Steps p.tables e below (s₁.setTop (mkF m 2 #[.val (.ref a1), .val (.ref a2)] [(.ref a2), (.ref a1)])) _
    refine XS.iconst X0.here hx rfl (hb hby d1_2) ?_
    show Steps p.tables e below (s₁.setTop (mkF m 3 #[.val (.ref a1), .val (.ref a2)] [(.int (0 : Int32)), (.ref a2), (.ref a1)])) _
    refine XS.aloadN X0.here hx rfl (hb hby d1_3) rfl rfl ?_
    show Steps p.tables e below (s₁.setTop (mkF m 4 #[.val (.ref a1), .val (.ref a2)] [(.ref a2), (.int (0 : Int32)), (.ref a2), (.ref a1)])) _
    refine X0.arraylength hx (by rw [e0]; exact Arq1.1) (State.isArrayOf_alike hZ.alike Arq1.2.1) (g := (mkF m 4 #[.val (.ref a1), .val (.ref a2)] [(.ref a2), (.int (0 : Int32)), (.ref a2), (.ref a1)])) rfl rfl (hb hby d1_4) _ ?_
    rw [len_of Sq1 nq1]
    show Steps p.tables e below (s₁.setTop (mkF m 5 #[.val (.ref a1), .val (.ref a2)] [(.int (1 : Int32)), (.int (0 : Int32)), (.ref a2), (.ref a1)])) _
    refine XS.aconstNull X0.here hx rfl (hb hby d1_5) ?_
    show Steps p.tables e below (s₁.setTop (mkF m 6 #[.val (.ref a1), .val (.ref a2)] [.null, (.int (1 : Int32)), (.int (0 : Int32)), (.ref a2), (.ref a1)])) _
    refine st2.trans ?_
    show Steps p.tables e below (T2.setTop (mkF m 9 #[.val (.ref a1), .val (.ref a2)] [])) _
    exact X2.returnOut hx Bd.returns (hb hby d1_9) hr
  · show own_QC4 Z a1 a2 h0 n0 _ T2.heap _
    exact ⟨rfl, N2, kp6, Eo2⟩
theorem d7_0 : decode jdk_29_method_69_code 0 = .ok (.iload_n 0, 1) := by decide +kernel
theorem d7_1 : decode jdk_29_method_69_code 1 = .ok (.iload_n 1, 1) := by decide +kernel
theorem d7_2 : decode jdk_29_method_69_code 2 = .ok (.if_icmp .gt 7, 3) := by decide +kernel
theorem d7_5 : decode jdk_29_method_69_code 5 = .ok (.iload_n 0, 1) := by decide +kernel
theorem d7_6 : decode jdk_29_method_69_code 6 = .ok (.goto 4, 3) := by decide +kernel
theorem d7_9 : decode jdk_29_method_69_code 9 = .ok (.iload_n 1, 1) := by decide +kernel
theorem d7_10 : decode jdk_29_method_69_code 10 = .ok (.ireturn, 1) := by decide +kernel
theorem ef_7 (m : MethodId) (x0 : Int32) (x1 : Int32) : entryFrame m #[(.int x0), (.int x1)] 2 = mkF m 0 #[.val (.int x0), .val (.int x1)] [] := by first | (simp [entryFrame, mkF, argsToLocals, Value.category]; done) | rfl
set_option maxRecDepth 65536 in
set_option maxHeartbeats 40000000 in
theorem rm_min (l : Launch) (Z : State) (a0 : Array Value) (hw : ∀ d ∈ tables_1, d.before a0 Z = true) (ws : List Jvm.Cond) (p1 p2 : Int32) (h0 : Heap) (n0 : Nat) (Z0 : n0 ≤ h0.size) :
    MetFree l (⟨"java/lang/Math", "min", "(II)I"⟩ : MethodName) (head1 (Jvm.Cond.code (⟨"java/lang/Math", "min", "(II)I"⟩ : MethodName) jdk_29_method_69_code 2 (some .int) :: ws) ({ frames := 0, cells := 0, slots := 0, locals := 0 } : Room)) (fun a U => a = #[(.int p1), (.int p2)] ∧ Z.Warmed39 U.vm ∧ U.heap = h0) (fun _ _ _ _ _ => True) (fun _ U o U' => ∃ v L, o = .returned v ∧ own_Qm Z p1 p2 h0 n0 v U'.heap L ∧ FrameEnd U o U' L ({ frames := 0, cells := 0, slots := 0, locals := 0 } : Room).cells ({ frames := 0, cells := 0, slots := 0, locals := 0 } : Room).slots) := by
  refine MetFree.of_bodySF (Jvm.Free.JP.mathPlain rfl (by decide +kernel)) hisR ?_
  intro p e s m args below meth c s₁ Bd hml0 hP hK
  obtain ⟨rfl, hZ, hh⟩ := hP
  have hx := Bd.exec
  have hby := Bd.bytes
  have hml : c.maxLocals = 2 := hml0
  have hown : s.vm.findClass "java/lang/Math" = some m.cls := findClass_of_methodNamed Bd.named
  have hnm := (name_of_methodNamed Bd.named Bd.method).1
  have X0 : Stand p l e ({ frames := 0, cells := 0, slots := 0, locals := 0 } : Room) s m #[(.int p1), (.int p2)] below meth c s₁ [] 0 0 := Stand.of_body Bd
  have e0 : s₁.heap = h0 := by rw [← hh, Bd.state]; rfl
  have N0 := Fr.nil n0
  have pre0 : ∀ tq, Steps p.tables e below (s₁.setTop (mkF m 0 #[.val (.int p1), .val (.int p2)] [])) tq → Steps p.tables e below (s₁.setTop (entryFrame m #[(.int p1), (.int p2)] 2)) tq := fun tq k => castTop (ef_7 m p1 p2) k
  have k1 : ∀ tq, Steps p.tables e below (s₁.setTop (mkF m 2 #[.val (.int p1), .val (.int p2)] [(.int p2), (.int p1)])) tq → Steps p.tables e below (s₁.setTop (entryFrame m #[(.int p1), (.int p2)] 2)) tq := by
    intro tq kt
    refine pre0 tq ?_
    show Steps p.tables e below (s₁.setTop (mkF m 0 #[.val (.int p1), .val (.int p2)] [])) _
    refine XS.iloadN X0.here hx rfl (hb hby d7_0) rfl ?_
    show Steps p.tables e below (s₁.setTop (mkF m 1 #[.val (.int p1), .val (.int p2)] [(.int p1)])) _
    refine XS.iloadN X0.here hx rfl (hb hby d7_1) rfl ?_
    exact kt
  by_cases hc2 : p2 < p1
  · obtain ⟨fs, hr, hrun, hended, hW, hsame⟩ := X0.leave (v := some (.int p2)) (fun h => by rw [Bd.returns] at h; cases h)
    refine ⟨_, _, k1 _ ?_, hrun, hended, _, _, rfl, ?_, ⟨_, rfl⟩, hW, hsame.mono (by decide) (by decide)⟩
    · show Steps p.tables e below (s₁.setTop (mkF m 2 #[.val (.int p1), .val (.int p2)] [(.int p2), (.int p1)])) _
      refine XS.icmpYes X0.here hx rfl (pc0 := 2) (pc' := 9) rfl (hb hby d7_2) rfl (tlt hc2).2.2.1 (by decide) (by decide) ?_
      show Steps p.tables e below (s₁.setTop (mkF m 9 #[.val (.int p1), .val (.int p2)] [])) _
      refine XS.iloadN X0.here hx rfl (hb hby d7_9) rfl ?_
      show Steps p.tables e below (s₁.setTop (mkF m 10 #[.val (.int p1), .val (.int p2)] [(.int p2)])) _
      exact retI X0 hx Bd.returns (hb hby d7_10) hr
    · show own_Qm Z p1 p2 h0 n0 _ s₁.heap _
      rw [e0]
      exact ⟨congrArg (fun z => some (Value.int z)) (show p2 = own_min p1 p2 from by unfold own_min; rw [if_pos hc2]), N0, rfl⟩
  · obtain ⟨fs, hr, hrun, hended, hW, hsame⟩ := X0.leave (v := some (.int p1)) (fun h => by rw [Bd.returns] at h; cases h)
    refine ⟨_, _, k1 _ ?_, hrun, hended, _, _, rfl, ?_, ⟨_, rfl⟩, hW, hsame.mono (by decide) (by decide)⟩
    · show Steps p.tables e below (s₁.setTop (mkF m 2 #[.val (.int p1), .val (.int p2)] [(.int p2), (.int p1)])) _
      refine XS.icmpNo X0.here hx rfl (hb hby d7_2) rfl (flt hc2).2.2.1 ?_
      show Steps p.tables e below (s₁.setTop (mkF m 5 #[.val (.int p1), .val (.int p2)] [])) _
      refine XS.iloadN X0.here hx rfl (hb hby d7_5) rfl ?_
      show Steps p.tables e below (s₁.setTop (mkF m 6 #[.val (.int p1), .val (.int p2)] [(.int p1)])) _
      refine XS.goto X0.here hx rfl (pc0 := 6) (pc' := 10) rfl (hb hby d7_6) (by decide) (by decide) ?_
      show Steps p.tables e below (s₁.setTop (mkF m 10 #[.val (.int p1), .val (.int p2)] [(.int p1)])) _
      exact retI X0 hx Bd.returns (hb hby d7_10) hr
    · show own_Qm Z p1 p2 h0 n0 _ s₁.heap _
      rw [e0]
      exact ⟨congrArg (fun z => some (Value.int z)) (show p1 = own_min p1 p2 from by unfold own_min; rw [if_neg hc2]), N0, rfl⟩
theorem d8_0 : decode jdk_29_method_65_code 0 = .ok (.iload_n 0, 1) := by decide +kernel
theorem d8_1 : decode jdk_29_method_65_code 1 = .ok (.iload_n 1, 1) := by decide +kernel
theorem d8_2 : decode jdk_29_method_65_code 2 = .ok (.if_icmp .lt 7, 3) := by decide +kernel
theorem d8_5 : decode jdk_29_method_65_code 5 = .ok (.iload_n 0, 1) := by decide +kernel
theorem d8_6 : decode jdk_29_method_65_code 6 = .ok (.goto 4, 3) := by decide +kernel
theorem d8_9 : decode jdk_29_method_65_code 9 = .ok (.iload_n 1, 1) := by decide +kernel
theorem d8_10 : decode jdk_29_method_65_code 10 = .ok (.ireturn, 1) := by decide +kernel
theorem ef_8 (m : MethodId) (x0 : Int32) (x1 : Int32) : entryFrame m #[(.int x0), (.int x1)] 2 = mkF m 0 #[.val (.int x0), .val (.int x1)] [] := by first | (simp [entryFrame, mkF, argsToLocals, Value.category]; done) | rfl
set_option maxRecDepth 65536 in
set_option maxHeartbeats 40000000 in
theorem rm_max (l : Launch) (Z : State) (a0 : Array Value) (hw : ∀ d ∈ tables_1, d.before a0 Z = true) (ws : List Jvm.Cond) (p1 p2 : Int32) (h0 : Heap) (n0 : Nat) (Z0 : n0 ≤ h0.size) :
    MetFree l (⟨"java/lang/Math", "max", "(II)I"⟩ : MethodName) (head1 (Jvm.Cond.code (⟨"java/lang/Math", "max", "(II)I"⟩ : MethodName) jdk_29_method_65_code 2 (some .int) :: ws) ({ frames := 0, cells := 0, slots := 0, locals := 0 } : Room)) (fun a U => a = #[(.int p1), (.int p2)] ∧ Z.Warmed39 U.vm ∧ U.heap = h0) (fun _ _ _ _ _ => True) (fun _ U o U' => ∃ v L, o = .returned v ∧ own_QM Z p1 p2 h0 n0 v U'.heap L ∧ FrameEnd U o U' L ({ frames := 0, cells := 0, slots := 0, locals := 0 } : Room).cells ({ frames := 0, cells := 0, slots := 0, locals := 0 } : Room).slots) := by
  refine MetFree.of_bodySF (Jvm.Free.JP.mathPlain rfl (by decide +kernel)) hisR ?_
  intro p e s m args below meth c s₁ Bd hml0 hP hK
  obtain ⟨rfl, hZ, hh⟩ := hP
  have hx := Bd.exec
  have hby := Bd.bytes
  have hml : c.maxLocals = 2 := hml0
  have hown : s.vm.findClass "java/lang/Math" = some m.cls := findClass_of_methodNamed Bd.named
  have hnm := (name_of_methodNamed Bd.named Bd.method).1
  have X0 : Stand p l e ({ frames := 0, cells := 0, slots := 0, locals := 0 } : Room) s m #[(.int p1), (.int p2)] below meth c s₁ [] 0 0 := Stand.of_body Bd
  have e0 : s₁.heap = h0 := by rw [← hh, Bd.state]; rfl
  have N0 := Fr.nil n0
  have pre0 : ∀ tq, Steps p.tables e below (s₁.setTop (mkF m 0 #[.val (.int p1), .val (.int p2)] [])) tq → Steps p.tables e below (s₁.setTop (entryFrame m #[(.int p1), (.int p2)] 2)) tq := fun tq k => castTop (ef_8 m p1 p2) k
  have k1 : ∀ tq, Steps p.tables e below (s₁.setTop (mkF m 2 #[.val (.int p1), .val (.int p2)] [(.int p2), (.int p1)])) tq → Steps p.tables e below (s₁.setTop (entryFrame m #[(.int p1), (.int p2)] 2)) tq := by
    intro tq kt
    refine pre0 tq ?_
    show Steps p.tables e below (s₁.setTop (mkF m 0 #[.val (.int p1), .val (.int p2)] [])) _
    refine XS.iloadN X0.here hx rfl (hb hby d8_0) rfl ?_
    show Steps p.tables e below (s₁.setTop (mkF m 1 #[.val (.int p1), .val (.int p2)] [(.int p1)])) _
    refine XS.iloadN X0.here hx rfl (hb hby d8_1) rfl ?_
    exact kt
  by_cases hc2 : p1 < p2
  · obtain ⟨fs, hr, hrun, hended, hW, hsame⟩ := X0.leave (v := some (.int p2)) (fun h => by rw [Bd.returns] at h; cases h)
    refine ⟨_, _, k1 _ ?_, hrun, hended, _, _, rfl, ?_, ⟨_, rfl⟩, hW, hsame.mono (by decide) (by decide)⟩
    · show Steps p.tables e below (s₁.setTop (mkF m 2 #[.val (.int p1), .val (.int p2)] [(.int p2), (.int p1)])) _
      refine XS.icmpYes X0.here hx rfl (pc0 := 2) (pc' := 9) rfl (hb hby d8_2) rfl (tlt hc2).1 (by decide) (by decide) ?_
      show Steps p.tables e below (s₁.setTop (mkF m 9 #[.val (.int p1), .val (.int p2)] [])) _
      refine XS.iloadN X0.here hx rfl (hb hby d8_9) rfl ?_
      show Steps p.tables e below (s₁.setTop (mkF m 10 #[.val (.int p1), .val (.int p2)] [(.int p2)])) _
      exact retI X0 hx Bd.returns (hb hby d8_10) hr
    · show own_QM Z p1 p2 h0 n0 _ s₁.heap _
      rw [e0]
      exact ⟨congrArg (fun z => some (Value.int z)) (show p2 = own_max p1 p2 from by unfold own_max; rw [if_pos hc2]), N0, rfl⟩
  · obtain ⟨fs, hr, hrun, hended, hW, hsame⟩ := X0.leave (v := some (.int p1)) (fun h => by rw [Bd.returns] at h; cases h)
    refine ⟨_, _, k1 _ ?_, hrun, hended, _, _, rfl, ?_, ⟨_, rfl⟩, hW, hsame.mono (by decide) (by decide)⟩
    · show Steps p.tables e below (s₁.setTop (mkF m 2 #[.val (.int p1), .val (.int p2)] [(.int p2), (.int p1)])) _
      refine XS.icmpNo X0.here hx rfl (hb hby d8_2) rfl (flt hc2).1 ?_
      show Steps p.tables e below (s₁.setTop (mkF m 5 #[.val (.int p1), .val (.int p2)] [])) _
      refine XS.iloadN X0.here hx rfl (hb hby d8_5) rfl ?_
      show Steps p.tables e below (s₁.setTop (mkF m 6 #[.val (.int p1), .val (.int p2)] [(.int p1)])) _
      refine XS.goto X0.here hx rfl (pc0 := 6) (pc' := 10) rfl (hb hby d8_6) (by decide) (by decide) ?_
      show Steps p.tables e below (s₁.setTop (mkF m 10 #[.val (.int p1), .val (.int p2)] [(.int p1)])) _
      exact retI X0 hx Bd.returns (hb hby d8_10) hr
    · show own_QM Z p1 p2 h0 n0 _ s₁.heap _
      rw [e0]
      exact ⟨congrArg (fun z => some (Value.int z)) (show p1 = own_max p1 p2 from by unfold own_max; rw [if_neg hc2]), N0, rfl⟩
/-- the words of the sheet that fillInStackTrace() of an ApiException asks -/
def own_tw : List Cond := [.initialized tN, .superclass tN "java/lang/Object", .instanceMethod tFill, .codeSync tFill LibCode.Throwable.Fill.code 1 (some (.object tN)), .instanceMethod tFill0, .native tFill0, .instanceMethod oInit, .code oInit ⟨#[0xb1]⟩ 1 none,
  .methodLink tN 1 oInit, .methodLink tN 27 tFill, .methodLink tN 202 tFill0, .fieldLink tN 7 tN "cause" "Ljava/lang/Throwable;", .lays "com/example/hatchd/hatchd/server/ApiException" tN "cause" "Ljava/lang/Throwable;", .fieldLink tN 17 tN "stackTrace" steD, .lays "com/example/hatchd/hatchd/server/ApiException" tN "stackTrace" steD,
  .fieldLink tN 24 tN "suppressedExceptions" listD, .lays "com/example/hatchd/hatchd/server/ApiException" tN "suppressedExceptions" listD, .fieldLink tN 13 tN "UNASSIGNED_STACK" steD, .laysStatic tN "UNASSIGNED_STACK" steD, .fieldLink tN 20 tN "SUPPRESSED_SENTINEL" listD, .laysStatic tN "SUPPRESSED_SENTINEL" listD,
  .lays "com/example/hatchd/hatchd/server/ApiException" tN "detailMessage" "Ljava/lang/String;", .declares tFill, .selects "com/example/hatchd/hatchd/server/ApiException" tFill0 tFill0, .selects "com/example/hatchd/hatchd/server/ApiException" tFill tFill, .fieldLink tN 198 tN "backtrace" "Ljava/lang/Object;", .lays "com/example/hatchd/hatchd/server/ApiException" tN "backtrace" "Ljava/lang/Object;",
  .arrayOver (.object "java/lang/Object"), .soleField tN "backtrace", .soleField tN "depth", .lays "com/example/hatchd/hatchd/server/ApiException" tN "depth" "I"]
theorem own_tw_in : ∀ d ∈ own_tw, d ∈ tables_1 := by decide +kernel
theorem own_tw_ok : ∀ d ∈ own_tw, xOk d = true := by decide +kernel
theorem own_par {d : String} {g : MethodDescriptor} {L : List FieldType} (h : parseMethodDescriptor d = some g) (e : (parseMethodDescriptor d).map (fun z => z.parameters) = some L) : g.parameters = L := by
  rw [h] at e; exact Option.some.inj e
theorem own_thr {args : Array Value} {s : State} {pl : Platform} (ho : pl.frameOwnsMonitors = true) (hf : pl.finalization = false) (hp : pl.magicAccessors = ({} : Platform).magicAccessors) (w : ∀ d ∈ own_tw, d.holds args s none s [] = true) :
    ∃ T : ThrowableC, T.Links pl s ∧ s.vm.findClass tN = some T.cT ∧ s.methodNamed? tFill = some T.fill ∧ s.methodNamed? tFill0 = some T.fill0 ∧ s.fieldFound? tN "stackTrace" steD = some (T.cT, T.kT, T.i17, T.fStack) ∧
      s.fieldFound? tN "UNASSIGNED_STACK" steD = some (T.cT, T.kT, T.i13, T.fUnassigned) ∧ T.fStack.name = "stackTrace" ∧ T.fStack.type = .array (.object "java/lang/StackTraceElement") := by
  have W : ∀ (i : Nat) (d : Cond), own_tw[i]? = some d → d.holds args s none s [] = true := fun i d e => w d (List.mem_of_getElem? e)
  obtain ⟨⟨cT, j0⟩, mN, hN, hN1, hN2, hN3, hN4, hN5⟩ := Cond.native_spec (W 5 (.native tFill0) rfl)
  have fT : s.vm.findClass tN = some cT := findClass_of_methodNamed hN
  obtain ⟨kT, aT, nT⟩ := Vm.findClass_spec fT
  obtain ⟨_, kT', _, _, aT', _, _, _, _, noFace⟩ := Cond.superclass_spec fT (W 1 (.superclass tN "java/lang/Object") rfl)
  obtain rfl : kT = kT' := Option.some.inj (aT.symm.trans aT')
  obtain ⟨jN, mN', gN, gN1, gN2, gN3, gN4, gN5, gN6⟩ := Cond.ownMethod (x := tFill0) fT aT (W 4 (.instanceMethod tFill0) rfl)
  obtain rfl : j0 = jN := congrArg MethodId.idx (Option.some.inj (hN.symm.trans gN))
  obtain rfl : mN = mN' := Option.some.inj (hN1.symm.trans gN1)
  obtain ⟨jF, mF, hF, hF1, hF2, hF3, hF4, -, -⟩ := Cond.ownMethod (x := tFill) fT aT (W 2 (.instanceMethod tFill) rfl)
  obtain ⟨mF', cF, kF, kF1, kF2, kF3, kF4, kF5, -, kF6⟩ := Cond.codeSync_spec hF (W 3 (.codeSync tFill LibCode.Throwable.Fill.code 1 (some (.object tN))) rfl)
  obtain rfl : mF = mF' := Option.some.inj (hF1.symm.trans kF)
  obtain ⟨iO, mO, hO, hO1, hO2, hO3⟩ := Cond.instanceMethod_spec (W 6 (.instanceMethod oInit) rfl)
  obtain ⟨mO', cO, kO, kO1, kO2, -, -, kO3, -, kO4⟩ := Cond.code_spec hO (W 7 (.code oInit ⟨#[0xb1]⟩ 1 none) rfl)
  obtain rfl : mO = mO' := Option.some.inj (hO1.symm.trans kO)
  obtain ⟨kOb, aOb, nOb⟩ := Vm.findClass_spec (findClass_of_methodNamed hO)
  obtain ⟨nO1, nO2⟩ := name_of_methodNamed hO hO1
  obtain ⟨c1, t1, cf, l1, r1, cf1, p1⟩ := Cond.linkedMethod fT aT hO (W 8 (.methodLink tN 1 oInit) rfl) pl hp
  obtain ⟨c2, t2, cf', l2, r2, cf2, p2⟩ := Cond.linkedMethod fT aT hF (W 9 (.methodLink tN 27 tFill) rfl) pl hp
  obtain rfl : cf = cf' := Option.some.inj (cf1.symm.trans cf2)
  obtain ⟨c3, t3, cf', l3, r3, cf3, p3⟩ := Cond.linkedMethod fT aT hN (W 10 (.methodLink tN 202 tFill0) rfl) pl hp
  obtain rfl : cf = cf' := Option.some.inj (cf1.symm.trans cf3)
  obtain ⟨d1, i1, f1, x1, y1, z1, u1, v1, -, -, -⟩ := Cond.ownField (t := .object tN) fT aT (by decide +kernel) (W 11 (.fieldLink tN 7 tN "cause" "Ljava/lang/Throwable;") rfl) (W 12 (.lays "com/example/hatchd/hatchd/server/ApiException" tN "cause" "Ljava/lang/Throwable;") rfl) pl hp
  obtain ⟨d2, i2, f2, x2, y2, z2, u2, v2, m2, o2, g2⟩ := Cond.ownField (t := .array (.object "java/lang/StackTraceElement")) fT aT (by decide +kernel) (W 13 (.fieldLink tN 17 tN "stackTrace" steD) rfl) (W 14 (.lays "com/example/hatchd/hatchd/server/ApiException" tN "stackTrace" steD) rfl) pl hp
  obtain ⟨d3, i3, f3, x3, y3, z3, u3, v3, m3, -, g3⟩ := Cond.ownField (t := .object "java/util/List") fT aT (by decide +kernel) (W 15 (.fieldLink tN 24 tN "suppressedExceptions" listD) rfl) (W 16 (.lays "com/example/hatchd/hatchd/server/ApiException" tN "suppressedExceptions" listD) rfl) pl hp
  obtain ⟨d4, i4, f4, aS, cS, x4, y4, z4, u4, -, -, st, -, -, -, -, g4⟩ := Cond.ownStatic (t := .array (.object "java/lang/StackTraceElement")) fT aT (by decide +kernel) (W 17 (.fieldLink tN 13 tN "UNASSIGNED_STACK" steD) rfl) (W 18 (.laysStatic tN "UNASSIGNED_STACK" steD) rfl) pl hp
  obtain ⟨d5, i5, f5, _, _, x5, y5, z5, u5, -, -, -, -, -, -, -, g5⟩ := Cond.ownStatic (t := .object "java/util/List") fT aT (by decide +kernel) (W 19 (.fieldLink tN 20 tN "SUPPRESSED_SENTINEL" listD) rfl) (W 20 (.laysStatic tN "SUPPRESSED_SENTINEL" listD) rfl) pl hp
  obtain ⟨cA, kA, _, _, _, f6, fA, aA, g6, u6, v6, -, -, -⟩ := Cond.lays_spec (W 21 (.lays "com/example/hatchd/hatchd/server/ApiException" tN "detailMessage" "Ljava/lang/String;") rfl)
  obtain ⟨-, e2, b2, b2'⟩ := Cond.laysAt fA aA g2 (W 14 (.lays "com/example/hatchd/hatchd/server/ApiException" tN "stackTrace" steD) rfl)
  obtain ⟨-, e3, b3, b3'⟩ := Cond.laysAt fA aA g3 (W 16 (.lays "com/example/hatchd/hatchd/server/ApiException" tN "suppressedExceptions" listD) rfl)
  refine ⟨{ cT := cT, kT := kT, cO := cT, aS := aS, fillIdx := jF, fill0Idx := j0, initSIdx := jF, obj := iO, kObj := kOb, methFill := mF, methFill0 := mN, methInitS := mF, methObj := mO, codeFill := cF, codeInitS := cF, codeObj := cO, fBack := f1, fDepth := f1, fStack := f2, fCause := f1, fSupp := f3, fMsg := f6, fUnassigned := f4, fSentinel := f5, cfT := cf, ci1 := c1, n1 := t1, ci27 := c2, n27 := t2, ci202 := c3, n202 := t3, ci7 := d1, i7 := i1, ci13 := d4, i13 := i4, ci17 := d2, i17 := i2, ci20 := d5, i20 := i5, ci24 := d3, i24 := i3 }, ?_, fT, hF, hN, g2, g4, m2, o2⟩
  constructor
  case owns => exact ho
  case noFinalization => exact hf
  case cls => exact aT
  case name => exact nT
  case boot => exact Vm.findClass_boot fT aT
  case notInterface => exact noFace
  case initialized => exact Cond.initialized_spec fT aT (W 0 (.initialized tN) rfl)
  case statics => exact st
  case fillAt => exact hF2
  case fillCode => exact kF1
  case fillBytes => exact kF2
  case fillLocals => exact kF3
  case fillLocks => exact kF5
  case fillStatic => exact hF3
  case fillAbstract => exact hF4
  case fillReturns => exact kF4
  case fillParams => exact own_par kF6 (by decide +kernel)
  case fill0At => exact gN2
  case fill0Name => exact gN5
  case fill0Desc => exact gN6
  case fill0Params => exact own_par hN5 (by decide +kernel)
  case fill0Static => exact gN3
  case fill0Native => exact hN2
  case fill0Code => exact hN3
  case fill0Locks => exact hN4
  case fill0Abstract => exact gN4
  case stackInstance => exact u2
  case stackNotFinal => exact v2
  case unassignedStatic => exact u4
  case objClass => exact aOb
  case objClassName => exact nOb
  case objMethod => exact hO1
  case objName => exact nO1
  case objStatic => exact hO2
  case objAbstract => exact hO3
  case objFound => rw [nO2]; exact lookupSpecial_of_named hO hO1 hO2
  case objParams => exact congrArg List.length (own_par kO4 (L := []) (by decide +kernel))
  case objCode => exact kO1
  case objBytes => exact kO2
  case objLocks => exact kO3
  case causeInstance => exact u1
  case causeNotFinal => exact v1
  case sentinelStatic => exact u5
  case suppInstance => exact u3
  case suppNotFinal => exact v3
  case msgInstance => exact u6
  case msgNotFinal => exact v6
  case stackApartSupp => exact Cond.laysApart b2 b3 b2' b3' (by rw [m2, m3]; decide)
  case file => exact cf1
  case mlink1 => exact l1
  case mright1 => exact r1
  case pool1 => exact p1
  case mlink27 => exact l2
  case mright27 => exact r2
  case pool27 => exact p2
  case mlink202 => exact l3
  case mright202 => exact r3
  case pool202 => exact p3
  case link7 => exact x1
  case right7 => exact y1
  case at7 => exact z1
  case link13 => exact x4
  case right13 => exact y4
  case at13 => exact z4
  case link17 => exact x2
  case right17 => exact y2
  case at17 => exact z2
  case link20 => exact x5
  case right20 => exact y5
  case at20 => exact z5
  case link24 => exact x3
  case right24 => exact y3
  case at24 => exact z3
theorem own_six {Z s : State} {a0 : Array Value} {a : Addr} {C n d : String} (hZ : Z.Warmed39 s.vm) (Lf : Laid Z a0 C tN n d) (hm : (n, d) ∈ Exc.sixNames) : Exc.Six s a ⟨a, Jvm.RoadKit.slotOf Z tN n d⟩ := by
  obtain ⟨-, -, cf, kf, i, f, -, -, q, -⟩ := Lf.spec
  exact ⟨(n, d), f, hm, Jvm.Free.BdW.found_ride (U := Z) (U' := s) hZ.alike ⟨_, _, _, q⟩, by simp [Jvm.RoadKit.slotOf, q]⟩
/-- fillInStackTrace() on an ApiException whose constructor has written only Throwable's own fields of it -/
theorem own_fill {p : Program} {l : Launch} {e : Env} {R : Room} {s T Z : State} {m : MethodId} {args a0 : Array Value} {below : List Frame} {meth : Method} {c : Code} {locs : List Loc} {cells slots : Nat} {h : Heap}
    (X : Stand p l e R s m args below meth c T locs cells slots) (hx : p.tables.exec = Jvm.exec) (hl : l.stackTraces = true) (hZ : Z.Warmed39 s.vm) (hw : ∀ d ∈ tables_1, d.before a0 Z = true) (hown : s.vm.findClass tN = some m.cls) (hT0 : ThS Z s.heap) (hTK : s.vm.MethodsKnown) (hBelow : s.vm.FramesKnown below)
    (eT : T.heap = h) {a : Addr} (E : Exa Z h a "com/example/hatchd/hatchd/server/ApiException") (N : Unt h a) (B : Fld Z h a tN "backtrace" "Ljava/lang/Object;" .null) {u : Value} (hu : u.isRef = true) (FS : Fld Z h a tN "stackTrace" steD u) (SU : Sta Z h tN "UNASSIGNED_STACK" steD u) {kk : Nat} (wi : (Cond.instantiable "com/example/hatchd/hatchd/server/ApiException" kk).before a0 Z = true)
    (hL : ∀ x ∈ locs, Exc.Six s a x) {g : JFrame} (hg : g.method = m) (hsize : g.locals.size = c.maxLocals) {rest : List Value} (hs : g.stack = .ref a :: rest) (hd : decode c.code g.pc = .ok (.invokevirtual 27, 3)) {W : Nat} (hW : 2 * g.monitorRoom + (rest.map fun v => v.category).sum ≤ W)
    (hf : 2 < R.frames) (hlo : W + 42 ≤ R.locals) (hc : cells + 1 ≤ R.cells) (hsl : slots + 2752 ≤ R.slots) :
    ∃ (T' : State) (locs' : List Loc), Stand p l e R s m args below meth c T' locs' (cells + 1) (slots + 2752) ∧ (∀ x ∈ locs', Exc.Six s a x) ∧ ∀ target, Steps p.tables e below (T'.setTop { g with pc := g.pc + 3, stack := .ref a :: rest }) target → Steps p.tables e below (T.setTop g) target := by
  have pf : e.platform.stackTraces = true := by rw [X.admits.platform]; exact hl
  have po : e.platform.frameOwnsMonitors = true := by rw [X.admits.platform]
  have pn : e.platform.finalization = false := by rw [X.admits.platform]
  have pm : e.platform.magicAccessors = ({} : Platform).magicAccessors := by rw [X.admits.platform]
  have w : ∀ d ∈ own_tw, d.before args s = true := fun d hd => mvX hT0 hZ (own_tw_ok d hd) (hw d (own_tw_in d hd))
  have V : ∀ (i : Nat) (d : Cond), own_tw[i]? = some d → d.holds args s none s [] = true := fun i d q => w d (List.mem_of_getElem? q)
  obtain ⟨Th, L, fT, nF, nN, gS, gU, nmS, tyS⟩ := own_thr (args := args) po pn pm w
  obtain ⟨cell, kc, h1, h2, h3, h4, h5⟩ := E
  obtain ⟨_, u1, u2, u3⟩ := N
  cases h1.symm.trans u1
  obtain ⟨_, _, j1, j2, j3, -⟩ := Cond.instantiable_spec wi
  cases h2.symm.trans j1
  cases h3.symm.trans j2
  have fA : s.vm.findClass "com/example/hatchd/hatchd/server/ApiException" = some cell.cls := by rw [hZ.alike.findClass]; exact h2
  obtain ⟨kX, aX, eX⟩ := hZ.alike.2.2 _ _ h3
  have ord : kX.kind = .ordinary := by rw [eX]; exact j3
  have hsz : cell.slots.size = kX.instanceTypes.size := by rw [eX]; exact h5 j3
  have tk : ∀ {f : Field} {v : Value}, kX.instanceTypes[f.slot]? = some f.type → fits f.type v = true → Jvm.Takes s cell f v := fun {f v} q1 q2 => by
    obtain ⟨r1, r2⟩ := Takes.of_laid (v := v) aX ord q1 q2
    exact ⟨by rw [hsz]; simpa using r1, by rw [u2]; exact r2⟩
  -- stackTrace and its default
  obtain ⟨_, cf, kf, i, f, b1, b2, b3, -, -, -, b7⟩ := FS
  cases h1.symm.trans b1
  obtain ⟨k4, q4, -⟩ := State.fieldFound?_setVm (s := Z) hZ.alike b2
  cases (show s.fieldFound? tN "stackTrace" steD = _ from q4).symm.trans gS
  obtain ⟨cf, i, k, f, st, cS, s1, s2, s3, s4, s5, s6, s7⟩ := SU
  obtain ⟨k5, q5, e5⟩ := State.fieldFound?_setVm (s := Z) hZ.alike s1
  cases (show s.fieldFound? tN "UNASSIGNED_STACK" steD = _ from q5).symm.trans gU
  have s4' : Th.kT.statics = some st := by rw [e5]; exact s4
  cases Option.some.inj (s4'.symm.trans L.statics)
  have ne : Th.aS ≠ a := fun q => by
    rw [q, h1] at s5
    rw [← Option.some.inj s5, u2] at s6
    cases s6
  have sel0 : selectMethod e.platform s.vm cell.cls Th.fill0 = .method Th.fill0 := by
    obtain ⟨c2, r2, m2, q1, q2, q3, q4, -⟩ := Cond.selects_spec (V 23 (.selects "com/example/hatchd/hatchd/server/ApiException" tFill0 tFill0) rfl)
    cases Option.some.inj (q1.symm.trans fA)
    cases Option.some.inj (q2.symm.trans (State.methodFound?_of_named nN (by decide)))
    cases Option.some.inj (q3.symm.trans nN)
    rw [Launch.admits_selectMethod X.admits]; exact q4
  obtain ⟨cB, iB, fB, l8, r8, z8, v8, -, n8, t8, g8⟩ := Cond.ownField (t := .object "java/lang/Object") fT L.cls (by decide +kernel) (V 25 (.fieldLink tN 198 tN "backtrace" "Ljava/lang/Object;") rfl) (V 26 (.lays "com/example/hatchd/hatchd/server/ApiException" tN "backtrace" "Ljava/lang/Object;") rfl) e.platform pm
  obtain ⟨_, cf, kf, i, f, b1', b2', -, -, -, -, b7'⟩ := B
  cases h1.symm.trans b1'
  obtain ⟨k6, q6, -⟩ := State.fieldFound?_setVm (s := Z) hZ.alike b2'
  cases (show s.fieldFound? tN "backtrace" "Ljava/lang/Object;" = _ from q6).symm.trans g8
  obtain ⟨_, _, cD, kD, iD, fD, -, -, gD, vD, -, -, -, -⟩ := Cond.lays_spec (V 30 (.lays "com/example/hatchd/hatchd/server/ApiException" tN "depth" "I") rfl)
  cases Option.some.inj ((Cond.lays_declared (V 30 (.lays "com/example/hatchd/hatchd/server/ApiException" tN "depth" "I") rfl) gD).symm.trans fT)
  obtain ⟨aD, zD⟩ := State.fieldFound?_spec gD
  cases Option.some.inj (aD.symm.trans L.cls)
  obtain ⟨nD, tD⟩ := State.fieldFound?_type gD (t := .int) (by decide +kernel)
  have sB := Cond.soleField_find fT L.cls (V 28 (.soleField tN "backtrace") rfl) z8 n8 v8
  have sD := Cond.soleField_find fT L.cls (V 29 (.soleField tN "depth") rfl) zD nD vD
  obtain ⟨comp, cO, kO, -, -, aO, kdO, fO⟩ := Cond.arrayOver_spec (V 27 (.arrayOver (.object "java/lang/Object")) rfl)
  obtain ⟨yS, -⟩ := Cond.laysAt fA aX gS (V 14 (.lays "com/example/hatchd/hatchd/server/ApiException" tN "stackTrace" steD) rfl)
  obtain ⟨yB, -⟩ := Cond.laysAt fA aX g8 (V 26 (.lays "com/example/hatchd/hatchd/server/ApiException" tN "backtrace" "Ljava/lang/Object;") rfl)
  obtain ⟨yD, -⟩ := Cond.laysAt fA aX gD (V 30 (.lays "com/example/hatchd/hatchd/server/ApiException" tN "depth" "I") rfl)
  have sw := w (.selects "com/example/hatchd/hatchd/server/ApiException" tFill tFill) (List.mem_of_getElem? (i := 24) rfl)
  obtain ⟨v, vm1, ⟨T', L', c', n'⟩, -, X', ⟨hv, C', n, hn, -, -, -, -, -, e1, e2, e3⟩, go⟩ := X.virtualBack hx (own := tN) (C := "com/example/hatchd/hatchd/server/ApiException") (index := 27) (y := tFill) (z := tFill) hown (w _ (List.mem_of_getElem? (i := 9) rfl)) (w _ (List.mem_of_getElem? (i := 22) rfl)) (notFace_of_selects sw) sw (w _ (List.mem_of_getElem? (i := 2) rfl)) (by decide)
    (Exc.fillPaysAny (l := l) (W := W) hx pf Th L nF (u0 := ⟨u, hu⟩) (self := a) (cell := cell) (cellS := cS) (fun _ => by rw [u2]; simp) (by rw [u2]; simp) (by rw [u3]) (by rw [u3]) b7 sel0 ne (fun q => by rw [q] at s6; cases s6) s7 (tk yS (by rw [tyS]; exact fits_refV_array _ ⟨u, hu⟩))
      ⟨{ ci198 := cB, i198 := iB, fBack := fB }, ⟨l8, r8, z8, v8⟩, b7'⟩ hTK hBelow fT fO aO kdO sB sD (fun x => tk yB (by rw [t8]; rfl)) (fun x => tk yD (by rw [tD]; rfl)) hf hlo)
    (b := a) (cB := cell.cls) fA ⟨cell, by rw [eT]; exact h1, rfl, by rw [u2]; rfl⟩ (g := g) hg hsize (Steps.refl _) (argsL := []) (rest := rest)
    (fun sig q => by rw [show parseMethodDescriptor tFill.desc = some ⟨[], some (.object tN)⟩ from by decide +kernel] at q; rw [← Option.some.inj q]; rfl) hs hW hd
    (fun _ _ => ⟨rfl, hc, hsl, (show T.heap[a]? = some cell by rw [eT]; exact h1), (show T.heap[Th.aS]? = some cS by rw [eT]; exact s5)⟩)
  dsimp only [Pt.U, Pt.locs, Pt.cells, Pt.slots] at X' e1 e2 e3 go
  subst hv e1 e2 e3
  refine ⟨T', _, X'.more (Nat.le_refl _) (Nat.add_le_add_left hn _), fun x q => ?_, fun t q => go.trans q⟩
  rcases List.mem_append.mp q with q | q
  · exact hL x q
  simp only [List.mem_cons, List.not_mem_nil, or_false] at q
  rcases q with q | q | q
  · exact ⟨("backtrace", "Ljava/lang/Object;"), _, by simp [Exc.sixNames, Exc.obD], ⟨_, _, _, g8⟩, q⟩
  · exact ⟨("depth", "I"), _, by simp [Exc.sixNames], ⟨_, _, _, gD⟩, q⟩
  · exact ⟨("stackTrace", steD), _, by simp [Exc.sixNames], ⟨_, _, _, gS⟩, q⟩
theorem own_sn {P : Loc → Prop} {L : List Loc} {y : Loc} (h : ∀ x ∈ L, P x) (q : P y) : ∀ x ∈ L ++ [y], P x := fun x hx => (List.mem_append.mp hx).elim (h x) fun r => by obtain rfl := List.mem_singleton.mp r; exact q
theorem own_sne {Z : State} {a0 : Array Value} (hw : ∀ d ∈ tables_1, d.before a0 Z = true) : ∀ nd ∈ Exc.sixNames, Jvm.RoadKit.slotOf Z tN nd.1 nd.2 ≠ Jvm.RoadKit.slotOf Z "com/example/hatchd/hatchd/server/ApiException" "status" "I" := fun nd hm => by
  have hd : nd.1 ≠ "status" := (by decide : ∀ nd ∈ Exc.sixNames, nd.1 ≠ "status") nd hm
  have Lf : Laid Z a0 "com/example/hatchd/hatchd/server/ApiException" "com/example/hatchd/hatchd/server/ApiException" "status" "I" := Or.inr (hw _ (List.mem_of_getElem? (i := 92) rfl))
  simp only [Exc.sixNames, List.mem_cons, List.not_mem_nil, or_false] at hm
  rcases hm with rfl | rfl | rfl | rfl | rfl | rfl
  · exact slot_ne (Or.inl (hw _ (List.mem_of_getElem? (i := 56) rfl))) Lf hd (t := .object tN) (t' := .int) (by decide) (by decide)
  · exact slot_ne (Or.inl (hw _ (List.mem_of_getElem? (i := 59) rfl))) Lf hd (t := .array (.object "java/lang/StackTraceElement")) (t' := .int) (by decide) (by decide)
  · exact slot_ne (Or.inl (hw _ (List.mem_of_getElem? (i := 62) rfl))) Lf hd (t := .object "java/util/List") (t' := .int) (by decide) (by decide)
  · exact slot_ne (Or.inl (hw _ (List.mem_of_getElem? (i := 87) rfl))) Lf hd (t := .object "java/lang/Object") (t' := .int) (by decide) (by decide)
  · exact slot_ne (Or.inl (hw _ (List.mem_of_getElem? (i := 88) rfl))) Lf hd (t := .int) (t' := .int) (by decide) (by decide)
  · exact slot_ne (Or.inl (hw _ (List.mem_of_getElem? (i := 86) rfl))) Lf hd (t := .object "java/lang/String") (t' := .int) (by decide) (by decide)
def own_QT (Z : State) (a1 : Addr) (h0 : Heap) (n0 : Nat) (v : Option Value) (h : Heap) (L : List Loc) : Prop := v = none ∧ Fr n0 L ∧ Kp Z h0 h a1
theorem d11_0 : decode jdk_78_method_2_code 0 = .ok (.aload_n 0, 1) := by decide +kernel
theorem d11_1 : decode jdk_78_method_2_code 1 = .ok (.invokespecial 1, 3) := by decide +kernel
theorem d11_4 : decode jdk_78_method_2_code 4 = .ok (.aload_n 0, 1) := by decide +kernel
theorem d11_5 : decode jdk_78_method_2_code 5 = .ok (.aload_n 0, 1) := by decide +kernel
theorem d11_6 : decode jdk_78_method_2_code 6 = .ok (.putfield 7, 3) := by decide +kernel
theorem d11_9 : decode jdk_78_method_2_code 9 = .ok (.aload_n 0, 1) := by decide +kernel
theorem d11_10 : decode jdk_78_method_2_code 10 = .ok (.getstatic 13, 3) := by decide +kernel
theorem d11_13 : decode jdk_78_method_2_code 13 = .ok (.putfield 17, 3) := by decide +kernel
theorem d11_16 : decode jdk_78_method_2_code 16 = .ok (.aload_n 0, 1) := by decide +kernel
theorem d11_17 : decode jdk_78_method_2_code 17 = .ok (.getstatic 20, 3) := by decide +kernel
theorem d11_20 : decode jdk_78_method_2_code 20 = .ok (.putfield 24, 3) := by decide +kernel
theorem d11_23 : decode jdk_78_method_2_code 23 = .ok (.aload_n 0, 1) := by decide +kernel
theorem d11_24 : decode jdk_78_method_2_code 24 = .ok (.invokevirtual 27, 3) := by decide +kernel
theorem d11_27 : decode jdk_78_method_2_code 27 = .ok (.pop, 1) := by decide +kernel
theorem d11_28 : decode jdk_78_method_2_code 28 = .ok (.aload_n 0, 1) := by decide +kernel
theorem d11_29 : decode jdk_78_method_2_code 29 = .ok (.aload_n 1, 1) := by decide +kernel
theorem d11_30 : decode jdk_78_method_2_code 30 = .ok (.putfield 31, 3) := by decide +kernel
theorem d11_33 : decode jdk_78_method_2_code 33 = .ok (.return_, 1) := by decide +kernel
theorem pn_11 : plainName "java/lang/Throwable" = true := by first | (simp [plainName, overriddenIn]; done) | decide +kernel
theorem ef_11 (m : MethodId) (x0 : Addr) (x1 : Addr) : entryFrame m #[(.ref x0), (.ref x1)] 2 = mkF m 0 #[.val (.ref x0), .val (.ref x1)] [] := by first | (simp [entryFrame, mkF, argsToLocals, Value.category]; done) | rfl
set_option maxRecDepth 65536 in
set_option maxHeartbeats 40000000 in
theorem rmT (l : Launch) (Z : State) (a0 : Array Value) (hw : ∀ d ∈ tables_1, d.before a0 Z = true) (ws : List Jvm.Cond) (a1 a2 ua va : Addr) (h0 : Heap) (n0 : Nat) (Z0 : n0 ≤ h0.size) (hl : l.stackTraces = true) (TS : ThS Z h0) (SU : Sta Z h0 "java/lang/Throwable" "UNASSIGNED_STACK" "[Ljava/lang/StackTraceElement;" (.ref ua)) (SS : Sta Z h0 "java/lang/Throwable" "SUPPRESSED_SENTINEL" "Ljava/util/List;" (.ref va)) (E_a1 : Exa Z h0 a1 "com/example/hatchd/hatchd/server/ApiException") (U_a1 : Unt h0 a1) (F_bt : Fld Z h0 a1 "java/lang/Throwable" "backtrace" "Ljava/lang/Object;" .null) (F_ca : Fld Z h0 a1 "java/lang/Throwable" "cause" "Ljava/lang/Throwable;" .null) (F_sk : Fld Z h0 a1 "java/lang/Throwable" "stackTrace" "[Ljava/lang/StackTraceElement;" .null) (F_su : Fld Z h0 a1 "java/lang/Throwable" "suppressedExceptions" "Ljava/util/List;" .null) (g_a1 : n0 ≤ a1) :
    MetFree l (⟨"java/lang/Throwable", "<init>", "(Ljava/lang/String;)V"⟩ : MethodName) (head1 (Jvm.Cond.code (⟨"java/lang/Throwable", "<init>", "(Ljava/lang/String;)V"⟩ : MethodName) jdk_78_method_2_code 2 none :: ws) ({ frames := 3, cells := 1, slots := 2752, locals := 42 } : Room)) (fun a U => a = #[(.ref a1), (.ref a2)] ∧ Z.Warmed39 U.vm ∧ U.heap = h0) (fun _ _ bl s _ => s.vm.MethodsKnown ∧ s.vm.FramesKnown bl) (fun _ U o U' => ∃ v L, o = .returned v ∧ own_QT Z a1 h0 n0 v U'.heap L ∧ FrameEnd U o U' L ({ frames := 3, cells := 1, slots := 2752, locals := 42 } : Room).cells ({ frames := 3, cells := 1, slots := 2752, locals := 42 } : Room).slots) := by
  refine MetFree.of_bodySF (plainFor_of_name pn_11) hisR ?_
  intro p e s m args below meth c s₁ Bd hml0 hP hK
  obtain ⟨rfl, hZ, hh⟩ := hP
  have hx := Bd.exec
  have hby := Bd.bytes
  have hml : c.maxLocals = 2 := hml0
  have hown : s.vm.findClass "java/lang/Throwable" = some m.cls := findClass_of_methodNamed Bd.named
  have hnm := (name_of_methodNamed Bd.named Bd.method).1
  have X0 : Stand p l e ({ frames := 3, cells := 1, slots := 2752, locals := 42 } : Room) s m #[(.ref a1), (.ref a2)] below meth c s₁ [] 0 0 := Stand.of_body Bd
  have e0 : s₁.heap = h0 := by rw [← hh, Bd.state]; rfl
  have N0 := Fr.nil n0
  have pre0 : ∀ tq, Steps p.tables e below (s₁.setTop (mkF m 0 #[.val (.ref a1), .val (.ref a2)] [])) tq → Steps p.tables e below (s₁.setTop (entryFrame m #[(.ref a1), (.ref a2)] 2)) tq := fun tq k => castTop (ef_11 m a1 a2) k
  obtain ⟨hTK, hBelow⟩ := hK
  obtain ⟨T1, X1, e1, st1⟩ := initO X0 hx hZ hown (hw _ (List.mem_of_getElem? (i := 54) rfl)) (hw _ (List.mem_of_getElem? (i := 12) rfl)) (hw _ (List.mem_of_getElem? (i := 13) rfl)) e0 (g := (mkF m 1 #[.val (.ref a1), .val (.ref a2)] [(.ref a1)])) rfl (by rw [hml]; rfl) rfl (hb hby d11_1) (by decide) (W := 0) (by show 2 * 0 + _ ≤ _; exact Nat.le_of_eq rfl) (by decide)
  obtain ⟨T2, h2, X2, e2, W2, st2⟩ := putF X1 hx hZ hown (host := "") (Or.inl (hw _ (List.mem_of_getElem? (i := 55) rfl))) Via.refl e1 F_ca E_a1 (Or.inl (hw _ (List.mem_of_getElem? (i := 56) rfl))) (hw _ (List.mem_of_getElem? (i := 38) rfl)) (ty := (.object "java/lang/Throwable")) (by decide) rfl rfl (g := (mkF m 6 #[.val (.ref a1), .val (.ref a2)] [(.ref a1), (.ref a1)])) rfl rfl (hb hby d11_6)
  have f3 := E_a1.wr W2
  have f4 := U_a1.wr W2
  have f5 := TS.wr W2
  have f6 := F_bt.other W2 (Or.inr (slot_ne (Or.inl (hw _ (List.mem_of_getElem? (i := 87) rfl))) (Or.inl (hw _ (List.mem_of_getElem? (i := 56) rfl))) (by decide) (t := (.object "java/lang/Object")) (t' := (.object "java/lang/Throwable")) (by decide) (by decide)))
  have f7 := F_ca.same W2
  have f8 := F_sk.other W2 (Or.inr (slot_ne (Or.inl (hw _ (List.mem_of_getElem? (i := 59) rfl))) (Or.inl (hw _ (List.mem_of_getElem? (i := 56) rfl))) (by decide) (t := (.array (.object "java/lang/StackTraceElement"))) (t' := (.object "java/lang/Throwable")) (by decide) (by decide)))
  have f9 := F_su.other W2 (Or.inr (slot_ne (Or.inl (hw _ (List.mem_of_getElem? (i := 62) rfl))) (Or.inl (hw _ (List.mem_of_getElem? (i := 56) rfl))) (by decide) (t := (.object "java/util/List")) (t' := (.object "java/lang/Throwable")) (by decide) (by decide)))
  have f10 := SU.wr W2
  have f11 := SS.wr W2
  have kp12 := (Keep.refl h0 [a1]).wr W2 (Or.inl (List.mem_of_getElem? (i := 0) rfl))
  have z13 := Nat.le_trans Z0 (Keep.of_wr W2).1
  have N14 := Fr.snoc X2 N0 g_a1
  obtain ⟨T15, X15, e15, st15⟩ := getS2 X2 hx hZ hown (host := "") (Or.inl (hw _ (List.mem_of_getElem? (i := 57) rfl))) Via.refl e2 f10 (g := (mkF m 10 #[.val (.ref a1), .val (.ref a2)] [(.ref a1)])) rfl (hb hby d11_10)
  obtain ⟨T16, h16, X16, e16, W16, st16⟩ := putF X15 hx hZ hown (host := "") (Or.inl (hw _ (List.mem_of_getElem? (i := 58) rfl))) Via.refl e15 f8 f3 (Or.inl (hw _ (List.mem_of_getElem? (i := 59) rfl))) (hw _ (List.mem_of_getElem? (i := 38) rfl)) (ty := (.array (.object "java/lang/StackTraceElement"))) (by decide) rfl rfl (g := (mkF m 13 #[.val (.ref a1), .val (.ref a2)] [(.ref ua), (.ref a1)])) rfl rfl (hb hby d11_13)
  have f17 := f3.wr W16
  have f18 := f4.wr W16
  have f19 := f5.wr W16
  have f20 := f6.other W16 (Or.inr (slot_ne (Or.inl (hw _ (List.mem_of_getElem? (i := 87) rfl))) (Or.inl (hw _ (List.mem_of_getElem? (i := 59) rfl))) (by decide) (t := (.object "java/lang/Object")) (t' := (.array (.object "java/lang/StackTraceElement"))) (by decide) (by decide)))
  have f21 := f7.other W16 (Or.inr (slot_ne (Or.inl (hw _ (List.mem_of_getElem? (i := 56) rfl))) (Or.inl (hw _ (List.mem_of_getElem? (i := 59) rfl))) (by decide) (t := (.object "java/lang/Throwable")) (t' := (.array (.object "java/lang/StackTraceElement"))) (by decide) (by decide)))
  have f22 := f8.same W16
  have f23 := f9.other W16 (Or.inr (slot_ne (Or.inl (hw _ (List.mem_of_getElem? (i := 62) rfl))) (Or.inl (hw _ (List.mem_of_getElem? (i := 59) rfl))) (by decide) (t := (.object "java/util/List")) (t' := (.array (.object "java/lang/StackTraceElement"))) (by decide) (by decide)))
  have f24 := f10.wr W16
  have f25 := f11.wr W16
  have kp26 := kp12.wr W16 (Or.inl (List.mem_of_getElem? (i := 0) rfl))
  have z27 := Nat.le_trans z13 (Keep.of_wr W16).1
  have N28 := Fr.snoc X16 N14 g_a1
  obtain ⟨T29, X29, e29, st29⟩ := getS2 X16 hx hZ hown (host := "") (Or.inl (hw _ (List.mem_of_getElem? (i := 60) rfl))) Via.refl e16 f25 (g := (mkF m 17 #[.val (.ref a1), .val (.ref a2)] [(.ref a1)])) rfl (hb hby d11_17)
  obtain ⟨T30, h30, X30, e30, W30, st30⟩ := putF X29 hx hZ hown (host := "") (Or.inl (hw _ (List.mem_of_getElem? (i := 61) rfl))) Via.refl e29 f23 f17 (Or.inl (hw _ (List.mem_of_getElem? (i := 62) rfl))) (hw _ (List.mem_of_getElem? (i := 38) rfl)) (ty := (.object "java/util/List")) (by decide) rfl rfl (g := (mkF m 20 #[.val (.ref a1), .val (.ref a2)] [(.ref va), (.ref a1)])) rfl rfl (hb hby d11_20)
  have f31 := f17.wr W30
  have f32 := f18.wr W30
  have f33 := f19.wr W30
  have f34 := f20.other W30 (Or.inr (slot_ne (Or.inl (hw _ (List.mem_of_getElem? (i := 87) rfl))) (Or.inl (hw _ (List.mem_of_getElem? (i := 62) rfl))) (by decide) (t := (.object "java/lang/Object")) (t' := (.object "java/util/List")) (by decide) (by decide)))
  have f35 := f21.other W30 (Or.inr (slot_ne (Or.inl (hw _ (List.mem_of_getElem? (i := 56) rfl))) (Or.inl (hw _ (List.mem_of_getElem? (i := 62) rfl))) (by decide) (t := (.object "java/lang/Throwable")) (t' := (.object "java/util/List")) (by decide) (by decide)))
  have f36 := f22.other W30 (Or.inr (slot_ne (Or.inl (hw _ (List.mem_of_getElem? (i := 59) rfl))) (Or.inl (hw _ (List.mem_of_getElem? (i := 62) rfl))) (by decide) (t := (.array (.object "java/lang/StackTraceElement"))) (t' := (.object "java/util/List")) (by decide) (by decide)))
  have f37 := f23.same W30
  have f38 := f24.wr W30
  have f39 := f25.wr W30
  have kp40 := kp26.wr W30 (Or.inl (List.mem_of_getElem? (i := 0) rfl))
  have z41 := Nat.le_trans z27 (Keep.of_wr W30).1
  have N42 := Fr.snoc X30 N28 g_a1
  obtain ⟨T43, L43, X43, hL43, st43⟩ := own_fill X30 hx hl hZ hw hown (by rw [hh]; exact TS) hTK hBelow e30 f31 f32 f34 (u := (.ref ua)) rfl f36 f38 (hw _ (List.mem_of_getElem? (i := 38) rfl)) (own_sn (own_sn (own_sn (fun _ q => nomatch q) (own_six hZ (Or.inl (hw _ (List.mem_of_getElem? (i := 56) rfl))) (by decide))) (own_six hZ (Or.inl (hw _ (List.mem_of_getElem? (i := 59) rfl))) (by decide))) (own_six hZ (Or.inl (hw _ (List.mem_of_getElem? (i := 62) rfl))) (by decide))) (g := (mkF m 24 #[.val (.ref a1), .val (.ref a2)] [(.ref a1)])) rfl (by rw [hml]; rfl) (rest := []) rfl (hb hby d11_24) (W := 0) (by show 2 * 0 + 0 ≤ 0; exact Nat.le_refl _) (by decide) (by decide) (by decide) (by decide)
  have Kp43 : Kp Z h0 T43.heap a1 := kp_of (T := s) (U := T43) hZ hh hL43 X43.same.2.2.2.2.2
  have Nx43 : Fr n0 L43 := fun y q => by rw [Exc.Six.base (hL43 y q)]; exact g_a1
  have kx43 := keep_of_kp Kp43
  have zx43 := Nat.le_trans Z0 kx43.1
  have Ex43 := E_a1.kp Kp43
  have Un43 := U_a1.kp Kp43
  obtain ⟨om43, Fm43⟩ := fld_laid (O := tN) (n := "detailMessage") (d := "Ljava/lang/String;") Ex43 Un43.known (hw _ (List.mem_of_getElem? (i := 38) rfl)) (Or.inl (hw _ (List.mem_of_getElem? (i := 86) rfl)))
  obtain ⟨T44, h44, X44, e44, W44, st44⟩ := putF X43 hx hZ hown (host := "") (Or.inl (hw _ (List.mem_of_getElem? (i := 90) rfl))) Via.refl rfl Fm43 Ex43 (Or.inl (hw _ (List.mem_of_getElem? (i := 86) rfl))) (hw _ (List.mem_of_getElem? (i := 38) rfl)) (ty := (.object "java/lang/String")) (by decide) rfl rfl (g := (mkF m 30 #[.val (.ref a1), .val (.ref a2)] [(.ref a2), (.ref a1)])) rfl rfl (hb hby d11_30)
  have f45 := Ex43.wr W44
  have f46 := Fm43.same W44
  have kp47 := kx43.wr W44 (Or.inl (List.mem_of_getElem? (i := 0) rfl))
  have z48 := Nat.le_trans zx43 (Keep.of_wr W44).1
  have N49 := Fr.snoc X44 Nx43 g_a1
  obtain ⟨fs, hr, hrun, hended, hW, hsame⟩ := X44.leave (v := none) (fun _ => rfl)
  refine ⟨_, _, pre0 _ ?_, hrun, hended, _, _, rfl, ?_, ⟨_, rfl⟩, hW, hsame.mono (by decide) (by decide)⟩
  · show Steps p.tables e below (s₁.setTop (mkF m 0 #[.val (.ref a1), .val (.ref a2)] [])) _
    refine XS.aloadN X0.here hx rfl (hb hby d11_0) rfl rfl ?_
    show Steps p.tables e below (s₁.setTop (mkF m 1 #[.val (.ref a1), .val (.ref a2)] [(.ref a1)])) _
    refine st1 _ ?_
    show Steps p.tables e below (T1.setTop (mkF m 4 #[.val (.ref a1), .val (.ref a2)] [])) _
    refine XS.aloadN X1.here hx rfl (hb hby d11_4) rfl rfl ?_
    show Steps p.tables e below (T1.setTop (mkF m 5 #[.val (.ref a1), .val (.ref a2)] [(.ref a1)])) _
    refine XS.aloadN X1.here hx rfl (hb hby d11_5) rfl rfl ?_
    show Steps p.tables e below (T1.setTop (mkF m 6 #[.val (.ref a1), .val (.ref a2)] [(.ref a1), (.ref a1)])) _
    refine st2 _ ?_
    show Steps p.tables e below (T2.setTop (mkF m 9 #[.val (.ref a1), .val (.ref a2)] [])) _
    refine XS.aloadN X2.here hx rfl (hb hby d11_9) rfl rfl ?_
    show Steps p.tables e below (T2.setTop (mkF m 10 #[.val (.ref a1), .val (.ref a2)] [(.ref a1)])) _
    refine st15 _ ?_
    show Steps p.tables e below (T15.setTop (mkF m 13 #[.val (.ref a1), .val (.ref a2)] [(.ref ua), (.ref a1)])) _
    refine st16 _ ?_
    show Steps p.tables e below (T16.setTop (mkF m 16 #[.val (.ref a1), .val (.ref a2)] [])) _
    refine XS.aloadN X16.here hx rfl (hb hby d11_16) rfl rfl ?_
    show Steps p.tables e below (T16.setTop (mkF m 17 #[.val (.ref a1), .val (.ref a2)] [(.ref a1)])) _
    refine st29 _ ?_
    show Steps p.tables e below (T29.setTop (mkF m 20 #[.val (.ref a1), .val (.ref a2)] [(.ref va), (.ref a1)])) _
    refine st30 _ ?_
    show Steps p.tables e below (T30.setTop (mkF m 23 #[.val (.ref a1), .val (.ref a2)] [])) _
    refine XS.aloadN X30.here hx rfl (hb hby d11_23) rfl rfl ?_
    show Steps p.tables e below (T30.setTop (mkF m 24 #[.val (.ref a1), .val (.ref a2)] [(.ref a1)])) _
    refine st43 _ ?_
    show Steps p.tables e below (T43.setTop (mkF m 27 #[.val (.ref a1), .val (.ref a2)] [(.ref a1)])) _
    refine XS.pop X43.here hx rfl (hb hby d11_27) rfl rfl ?_
    show Steps p.tables e below (T43.setTop (mkF m 28 #[.val (.ref a1), .val (.ref a2)] [])) _
    refine XS.aloadN X43.here hx rfl (hb hby d11_28) rfl rfl ?_
    show Steps p.tables e below (T43.setTop (mkF m 29 #[.val (.ref a1), .val (.ref a2)] [(.ref a1)])) _
    refine XS.aloadN X43.here hx rfl (hb hby d11_29) rfl rfl ?_
    show Steps p.tables e below (T43.setTop (mkF m 30 #[.val (.ref a1), .val (.ref a2)] [(.ref a2), (.ref a1)])) _
    refine st44 _ ?_
    show Steps p.tables e below (T44.setTop (mkF m 33 #[.val (.ref a1), .val (.ref a2)] [])) _
    exact X44.returnOut hx Bd.returns (hb hby d11_33) hr
  · show own_QT Z a1 h0 n0 _ T44.heap _
    rw [e44]
    exact ⟨rfl, N49, (by rw [← e44]; exact kp_of (T := s) (U := T44) hZ hh (own_sn hL43 (own_six hZ (Or.inl (hw _ (List.mem_of_getElem? (i := 86) rfl))) (by decide))) X44.same.2.2.2.2.2)⟩
theorem pd_5 : parseMethodDescriptor "(Ljava/lang/String;)V" = some ⟨[(.object "java/lang/String")], none⟩ := by decide +kernel
theorem d10_0 : decode jdk_59_method_2_code 0 = .ok (.aload_n 0, 1) := by decide +kernel
theorem d10_1 : decode jdk_59_method_2_code 1 = .ok (.aload_n 1, 1) := by decide +kernel
theorem d10_2 : decode jdk_59_method_2_code 2 = .ok (.invokespecial 7, 3) := by decide +kernel
theorem d10_5 : decode jdk_59_method_2_code 5 = .ok (.return_, 1) := by decide +kernel
theorem pn_10 : plainName "java/lang/Exception" = true := by first | (simp [plainName, overriddenIn]; done) | decide +kernel
theorem ef_10 (m : MethodId) (x0 : Addr) (x1 : Addr) : entryFrame m #[(.ref x0), (.ref x1)] 2 = mkF m 0 #[.val (.ref x0), .val (.ref x1)] [] := by first | (simp [entryFrame, mkF, argsToLocals, Value.category]; done) | rfl
set_option maxRecDepth 65536 in
set_option maxHeartbeats 40000000 in
theorem rmX1 (l : Launch) (Z : State) (a0 : Array Value) (hw : ∀ d ∈ tables_1, d.before a0 Z = true) (ws : List Jvm.Cond) (a1 a2 ua va : Addr) (h0 : Heap) (n0 : Nat) (Z0 : n0 ≤ h0.size) (hl : l.stackTraces = true) (TS : ThS Z h0) (SU : Sta Z h0 "java/lang/Throwable" "UNASSIGNED_STACK" "[Ljava/lang/StackTraceElement;" (.ref ua)) (SS : Sta Z h0 "java/lang/Throwable" "SUPPRESSED_SENTINEL" "Ljava/util/List;" (.ref va)) (E_a1 : Exa Z h0 a1 "com/example/hatchd/hatchd/server/ApiException") (U_a1 : Unt h0 a1) (F_bt : Fld Z h0 a1 "java/lang/Throwable" "backtrace" "Ljava/lang/Object;" .null) (F_ca : Fld Z h0 a1 "java/lang/Throwable" "cause" "Ljava/lang/Throwable;" .null) (F_sk : Fld Z h0 a1 "java/lang/Throwable" "stackTrace" "[Ljava/lang/StackTraceElement;" .null) (F_su : Fld Z h0 a1 "java/lang/Throwable" "suppressedExceptions" "Ljava/util/List;" .null) (g_a1 : n0 ≤ a1) :
    MetFree l (⟨"java/lang/Exception", "<init>", "(Ljava/lang/String;)V"⟩ : MethodName) (head1 (Jvm.Cond.code (⟨"java/lang/Exception", "<init>", "(Ljava/lang/String;)V"⟩ : MethodName) jdk_59_method_2_code 2 none :: ws) ({ frames := 4, cells := 1, slots := 2752, locals := 56 } : Room)) (fun a U => a = #[(.ref a1), (.ref a2)] ∧ Z.Warmed39 U.vm ∧ U.heap = h0) (fun _ _ bl s _ => s.vm.MethodsKnown ∧ s.vm.FramesKnown bl) (fun _ U o U' => ∃ v L, o = .returned v ∧ own_QT Z a1 h0 n0 v U'.heap L ∧ FrameEnd U o U' L ({ frames := 4, cells := 1, slots := 2752, locals := 56 } : Room).cells ({ frames := 4, cells := 1, slots := 2752, locals := 56 } : Room).slots) := by
  refine MetFree.of_bodySF (plainFor_of_name pn_10) hisR ?_
  intro p e s m args below meth c s₁ Bd hml0 hP hK
  obtain ⟨rfl, hZ, hh⟩ := hP
  have hx := Bd.exec
  have hby := Bd.bytes
  have hml : c.maxLocals = 2 := hml0
  have hown : s.vm.findClass "java/lang/Exception" = some m.cls := findClass_of_methodNamed Bd.named
  have hnm := (name_of_methodNamed Bd.named Bd.method).1
  have X0 : Stand p l e ({ frames := 4, cells := 1, slots := 2752, locals := 56 } : Room) s m #[(.ref a1), (.ref a2)] below meth c s₁ [] 0 0 := Stand.of_body Bd
  have e0 : s₁.heap = h0 := by rw [← hh, Bd.state]; rfl
  have N0 := Fr.nil n0
  have pre0 : ∀ tq, Steps p.tables e below (s₁.setTop (mkF m 0 #[.val (.ref a1), .val (.ref a2)] [])) tq → Steps p.tables e below (s₁.setTop (entryFrame m #[(.ref a1), (.ref a2)] 2)) tq := fun tq k => castTop (ef_10 m a1 a2) k
  obtain ⟨hTK, hBelow⟩ := hK
  obtain ⟨_, _, ⟨T1, L1, k1, n1⟩, -, X1, ⟨Lc1, hQ1, l1, y1, z1⟩, st1⟩ := X0.specialBack hx (y := (⟨"java/lang/Throwable", "<init>", "(Ljava/lang/String;)V"⟩ : MethodName)) rfl hown (mvT hZ (hw _ (List.mem_of_getElem? (i := 48) rfl))) (mvT hZ (hw _ (List.mem_of_getElem? (i := 49) rfl))) (mvT hZ (hw _ (List.mem_of_getElem? (i := 53) rfl))) (by decide) (backOfKL (W := 0) (rmT l Z a0 hw [] a1 a2 ua va h0 n0 Z0 hl TS SU SS E_a1 U_a1 F_bt F_ca F_sk F_su g_a1) hZ (hw _ (List.mem_of_getElem? (i := 53) rfl)) (hw _ (List.mem_of_getElem? (i := 52) rfl)) (by decide) (by decide) hTK hBelow) (g := (mkF m 2 #[.val (.ref a1), .val (.ref a2)] [(.ref a2), (.ref a1)])) rfl (by rw [hml]; rfl) (Steps.refl _) (a := a1) (argsL := [(.ref a2)]) (rest := []) (lenOf pd_5 rfl) rfl (by show 2 * 0 + _ ≤ _; exact Nat.le_of_eq rfl) (hb hby d10_2) (fun _ _ => ⟨rfl, e0, (by decide : 0 + 1 ≤ _), (by decide : 0 + 2752 ≤ _)⟩)
  dsimp only [Pt.U, Pt.locs, Pt.cells, Pt.slots] at X1 l1 y1 z1 st1 hQ1
  subst l1 y1 z1
  obtain ⟨rfl, N1q, Kp1⟩ := hQ1
  have N1 := Fr.app N0 N1q
  have Ke1 := keep_of_kp Kp1
  have f2 := E_a1.keep Ke1
  have z3 := Nat.le_trans Z0 Ke1.1
  have kp4 := Keep.trans (Keep.refl h0 [a1]) Ke1 (allS (Or.inl (List.mem_of_getElem? (i := 0) rfl)) all0)
  obtain ⟨fs, hr, hrun, hended, hW, hsame⟩ := X1.leave (v := none) (fun _ => rfl)
  refine ⟨_, _, pre0 _ ?_, hrun, hended, _, _, rfl, ?_, ⟨_, rfl⟩, hW, hsame.mono (by decide) (by decide)⟩
  · show Steps p.tables e below (s₁.setTop (mkF m 0 #[.val (.ref a1), .val (.ref a2)] [])) _
    refine XS.aloadN X0.here hx rfl (hb hby d10_0) rfl rfl ?_
    show Steps p.tables e below (s₁.setTop (mkF m 1 #[.val (.ref a1), .val (.ref a2)] [(.ref a1)])) _
    refine XS.aloadN X0.here hx rfl (hb hby d10_1) rfl rfl ?_
    show Steps p.tables e below (s₁.setTop (mkF m 2 #[.val (.ref a1), .val (.ref a2)] [(.ref a2), (.ref a1)])) _
    refine st1.trans ?_
    show Steps p.tables e below (T1.setTop (mkF m 5 #[.val (.ref a1), .val (.ref a2)] [])) _
    exact X1.returnOut hx Bd.returns (hb hby d10_5) hr
  · show own_QT Z a1 h0 n0 _ T1.heap _
    exact ⟨rfl, N1, Kp1⟩
def own_QX (Z : State) (a1 a2 : Addr) (p1 : Int32) (h0 : Heap) (n0 : Nat) (v : Option Value) (h : Heap) (L : List Loc) : Prop := v = none ∧ Fr n0 L ∧ Keep h0 h [a1] ∧ Exa Z h a1 "com/example/hatchd/hatchd/server/ApiException" ∧ Fld Z h a1 "com/example/hatchd/hatchd/server/ApiException" "status" "I" (.int p1)
theorem d9_0 : decode prog_27_method_1_code 0 = .ok (.aload_n 0, 1) := by decide +kernel
theorem d9_1 : decode prog_27_method_1_code 1 = .ok (.aload_n 2, 1) := by decide +kernel
theorem d9_2 : decode prog_27_method_1_code 2 = .ok (.invokespecial 1, 3) := by decide +kernel
theorem d9_5 : decode prog_27_method_1_code 5 = .ok (.aload_n 0, 1) := by decide +kernel
theorem d9_6 : decode prog_27_method_1_code 6 = .ok (.iload_n 1, 1) := by decide +kernel
theorem d9_7 : decode prog_27_method_1_code 7 = .ok (.putfield 7, 3) := by decide +kernel
theorem d9_10 : decode prog_27_method_1_code 10 = .ok (.return_, 1) := by decide +kernel
theorem pn_9 : plainName "com/example/hatchd/hatchd/server/ApiException" = true := by first | (simp [plainName, overriddenIn]; done) | decide +kernel
theorem ef_9 (m : MethodId) (x0 : Addr) (x1 : Int32) (x2 : Addr) : entryFrame m #[(.ref x0), (.int x1), (.ref x2)] 3 = mkF m 0 #[.val (.ref x0), .val (.int x1), .val (.ref x2)] [] := by first | (simp [entryFrame, mkF, argsToLocals, Value.category]; done) | rfl
set_option maxRecDepth 65536 in
set_option maxHeartbeats 40000000 in
theorem rmX (l : Launch) (Z : State) (a0 : Array Value) (hw : ∀ d ∈ tables_1, d.before a0 Z = true) (ws : List Jvm.Cond) (a1 : Addr) (p1 : Int32) (a2 ua va : Addr) (h0 : Heap) (n0 : Nat) (Z0 : n0 ≤ h0.size) (hl : l.stackTraces = true) (TS : ThS Z h0) (SU : Sta Z h0 "java/lang/Throwable" "UNASSIGNED_STACK" "[Ljava/lang/StackTraceElement;" (.ref ua)) (SS : Sta Z h0 "java/lang/Throwable" "SUPPRESSED_SENTINEL" "Ljava/util/List;" (.ref va)) (E_a1 : Exa Z h0 a1 "com/example/hatchd/hatchd/server/ApiException") (U_a1 : Unt h0 a1) (F_bt : Fld Z h0 a1 "java/lang/Throwable" "backtrace" "Ljava/lang/Object;" .null) (F_ca : Fld Z h0 a1 "java/lang/Throwable" "cause" "Ljava/lang/Throwable;" .null) (F_sk : Fld Z h0 a1 "java/lang/Throwable" "stackTrace" "[Ljava/lang/StackTraceElement;" .null) (F_su : Fld Z h0 a1 "java/lang/Throwable" "suppressedExceptions" "Ljava/util/List;" .null) (g_a1 : n0 ≤ a1) (F_st : Fld Z h0 a1 "com/example/hatchd/hatchd/server/ApiException" "status" "I" (.int (0 : Int32))) :
    MetFree l (⟨"com/example/hatchd/hatchd/server/ApiException", "<init>", "(ILjava/lang/String;)V"⟩ : MethodName) (head1 (Jvm.Cond.code (⟨"com/example/hatchd/hatchd/server/ApiException", "<init>", "(ILjava/lang/String;)V"⟩ : MethodName) prog_27_method_1_code 3 none :: ws) ({ frames := 5, cells := 1, slots := 2752, locals := 70 } : Room)) (fun a U => a = #[(.ref a1), (.int p1), (.ref a2)] ∧ Z.Warmed39 U.vm ∧ U.heap = h0) (fun _ _ bl s _ => s.vm.MethodsKnown ∧ s.vm.FramesKnown bl) (fun _ U o U' => ∃ v L, o = .returned v ∧ own_QX Z a1 a2 p1 h0 n0 v U'.heap L ∧ FrameEnd U o U' L ({ frames := 5, cells := 1, slots := 2752, locals := 70 } : Room).cells ({ frames := 5, cells := 1, slots := 2752, locals := 70 } : Room).slots) := by
  refine MetFree.of_bodySF (plainFor_of_name pn_9) hisR ?_
  intro p e s m args below meth c s₁ Bd hml0 hP hK
  obtain ⟨rfl, hZ, hh⟩ := hP
  have hx := Bd.exec
  have hby := Bd.bytes
  have hml : c.maxLocals = 3 := hml0
  have hown : s.vm.findClass "com/example/hatchd/hatchd/server/ApiException" = some m.cls := findClass_of_methodNamed Bd.named
  have hnm := (name_of_methodNamed Bd.named Bd.method).1
  have X0 : Stand p l e ({ frames := 5, cells := 1, slots := 2752, locals := 70 } : Room) s m #[(.ref a1), (.int p1), (.ref a2)] below meth c s₁ [] 0 0 := Stand.of_body Bd
  have e0 : s₁.heap = h0 := by rw [← hh, Bd.state]; rfl
  have N0 := Fr.nil n0
  have pre0 : ∀ tq, Steps p.tables e below (s₁.setTop (mkF m 0 #[.val (.ref a1), .val (.int p1), .val (.ref a2)] [])) tq → Steps p.tables e below (s₁.setTop (entryFrame m #[(.ref a1), (.int p1), (.ref a2)] 3)) tq := fun tq k => castTop (ef_9 m a1 p1 a2) k
  obtain ⟨hTK, hBelow⟩ := hK
  obtain ⟨_, _, ⟨T1, L1, k1, n1⟩, -, X1, ⟨Lc1, hQ1, l1, y1, z1⟩, st1⟩ := X0.specialBack hx (y := (⟨"java/lang/Exception", "<init>", "(Ljava/lang/String;)V"⟩ : MethodName)) rfl hown (mvT hZ (hw _ (List.mem_of_getElem? (i := 43) rfl))) (mvT hZ (hw _ (List.mem_of_getElem? (i := 44) rfl))) (mvT hZ (hw _ (List.mem_of_getElem? (i := 47) rfl))) (by decide) (backOfKL (W := 0) (rmX1 l Z a0 hw [] a1 a2 ua va h0 n0 Z0 hl TS SU SS E_a1 U_a1 F_bt F_ca F_sk F_su g_a1) hZ (hw _ (List.mem_of_getElem? (i := 47) rfl)) (hw _ (List.mem_of_getElem? (i := 46) rfl)) (by decide) (by decide) hTK hBelow) (g := (mkF m 2 #[.val (.ref a1), .val (.int p1), .val (.ref a2)] [(.ref a2), (.ref a1)])) rfl (by rw [hml]; rfl) (Steps.refl _) (a := a1) (argsL := [(.ref a2)]) (rest := []) (lenOf pd_5 rfl) rfl (by show 2 * 0 + _ ≤ _; exact Nat.le_of_eq rfl) (hb hby d9_2) (fun _ _ => ⟨rfl, e0, (by decide : 0 + 1 ≤ _), (by decide : 0 + 2752 ≤ _)⟩)
  dsimp only [Pt.U, Pt.locs, Pt.cells, Pt.slots] at X1 l1 y1 z1 st1 hQ1
  subst l1 y1 z1
  obtain ⟨rfl, N1q, Kp1⟩ := hQ1
  have N1 := Fr.app N0 N1q
  have Ke1 := keep_of_kp Kp1
  have f2 := E_a1.keep Ke1
  have z3 := Nat.le_trans Z0 Ke1.1
  have kp4 := Keep.trans (Keep.refl h0 [a1]) Ke1 (allS (Or.inl (List.mem_of_getElem? (i := 0) rfl)) all0)
  have Fs := Fld.kp Kp1 F_st (Or.inr (own_sne hw))
  obtain ⟨T5, h5, X5, e5, W5, st5⟩ := putF X1 hx hZ hown (host := "") (Or.inl (hw _ (List.mem_of_getElem? (i := 91) rfl))) Via.refl rfl Fs f2 (Or.inr ⟨(hw _ (List.mem_of_getElem? (i := 92) rfl)), rfl, hnm⟩) (hw _ (List.mem_of_getElem? (i := 38) rfl)) (ty := .int) (by decide) rfl rfl (g := (mkF m 7 #[.val (.ref a1), .val (.int p1), .val (.ref a2)] [(.int p1), (.ref a1)])) rfl rfl (hb hby d9_7)
  have f6 := f2.wr W5
  have f7 := Fs.same W5
  have kp8 := kp4.wr W5 (Or.inl (List.mem_of_getElem? (i := 0) rfl))
  have z9 := Nat.le_trans z3 (Keep.of_wr W5).1
  have N10 := Fr.snoc X5 N1 g_a1
  obtain ⟨fs, hr, hrun, hended, hW, hsame⟩ := X5.leave (v := none) (fun _ => rfl)
  refine ⟨_, _, pre0 _ ?_, hrun, hended, _, _, rfl, ?_, ⟨_, rfl⟩, hW, hsame.mono (by decide) (by decide)⟩
  · show Steps p.tables e below (s₁.setTop (mkF m 0 #[.val (.ref a1), .val (.int p1), .val (.ref a2)] [])) _
    refine XS.aloadN X0.here hx rfl (hb hby d9_0) rfl rfl ?_
    show Steps p.tables e below (s₁.setTop (mkF m 1 #[.val (.ref a1), .val (.int p1), .val (.ref a2)] [(.ref a1)])) _
    refine XS.aloadN X0.here hx rfl (hb hby d9_1) rfl rfl ?_
    show Steps p.tables e below (s₁.setTop (mkF m 2 #[.val (.ref a1), .val (.int p1), .val (.ref a2)] [(.ref a2), (.ref a1)])) _
    refine st1.trans ?_
    show Steps p.tables e below (T1.setTop (mkF m 5 #[.val (.ref a1), .val (.int p1), .val (.ref a2)] [])) _
    refine XS.aloadN X1.here hx rfl (hb hby d9_5) rfl rfl ?_
    show Steps p.tables e below (T1.setTop (mkF m 6 #[.val (.ref a1), .val (.int p1), .val (.ref a2)] [(.ref a1)])) _
    refine XS.iloadN X1.here hx rfl (hb hby d9_6) rfl ?_
    show Steps p.tables e below (T1.setTop (mkF m 7 #[.val (.ref a1), .val (.int p1), .val (.ref a2)] [(.int p1), (.ref a1)])) _
    refine st5 _ ?_
    show Steps p.tables e below (T5.setTop (mkF m 10 #[.val (.ref a1), .val (.int p1), .val (.ref a2)] [])) _
    exact X5.returnOut hx Bd.returns (hb hby d9_10) hr
  · show own_QX Z a1 a2 p1 h0 n0 _ T5.heap _
    rw [e5]
    exact ⟨rfl, N10, kp8, f6, f7⟩
theorem d14_0 : decode prog_27_method_2_code 0 = .ok (.aload_n 0, 1) := by decide +kernel
theorem d14_1 : decode prog_27_method_2_code 1 = .ok (.getfield 7, 3) := by decide +kernel
theorem d14_4 : decode prog_27_method_2_code 4 = .ok (.sipush 500, 3) := by decide +kernel
theorem d14_7 : decode prog_27_method_2_code 7 = .ok (.if_icmp .lt 7, 3) := by decide +kernel
theorem d14_10 : decode prog_27_method_2_code 10 = .ok (.iconst 1, 1) := by decide +kernel
theorem d14_11 : decode prog_27_method_2_code 11 = .ok (.goto 4, 3) := by decide +kernel
theorem d14_14 : decode prog_27_method_2_code 14 = .ok (.iconst 0, 1) := by decide +kernel
theorem d14_15 : decode prog_27_method_2_code 15 = .ok (.ireturn, 1) := by decide +kernel
theorem pn_14 : plainName "com/example/hatchd/hatchd/server/ApiException" = true := by first | (simp [plainName, overriddenIn]; done) | decide +kernel
theorem ef_14 (m : MethodId) (x0 : Addr) : entryFrame m #[(.ref x0)] 1 = mkF m 0 #[.val (.ref x0)] [] := by first | (simp [entryFrame, mkF, argsToLocals, Value.category]; done) | rfl
set_option maxRecDepth 65536 in
set_option maxHeartbeats 40000000 in
theorem rmK (l : Launch) (Z : State) (a0 : Array Value) (hw : ∀ d ∈ tables_1, d.before a0 Z = true) (ws : List Jvm.Cond) (a1 : Addr) (st : Int32) (h0 : Heap) (n0 : Nat) (Z0 : n0 ≤ h0.size) (F1 : Fld Z h0 a1 "com/example/hatchd/hatchd/server/ApiException" "status" "I" (.int st)) :
    MetFree l (⟨"com/example/hatchd/hatchd/server/ApiException", "isPassing", "()Z"⟩ : MethodName) (head1 (Jvm.Cond.code (⟨"com/example/hatchd/hatchd/server/ApiException", "isPassing", "()Z"⟩ : MethodName) prog_27_method_2_code 1 (some .boolean) :: ws) ({ frames := 0, cells := 0, slots := 0, locals := 0 } : Room)) (fun a U => a = #[(.ref a1)] ∧ Z.Warmed39 U.vm ∧ U.heap = h0) (fun _ _ _ _ _ => True) (fun _ U o U' => ∃ v L, o = .returned v ∧ own_QK Z a1 st h0 n0 v U'.heap L ∧ FrameEnd U o U' L ({ frames := 0, cells := 0, slots := 0, locals := 0 } : Room).cells ({ frames := 0, cells := 0, slots := 0, locals := 0 } : Room).slots) := by
  refine MetFree.of_bodySF (plainFor_of_name pn_14) hisR ?_
  intro p e s m args below meth c s₁ Bd hml0 hP hK
  obtain ⟨rfl, hZ, hh⟩ := hP
  have hx := Bd.exec
  have hby := Bd.bytes
  have hml : c.maxLocals = 1 := hml0
  have hown : s.vm.findClass "com/example/hatchd/hatchd/server/ApiException" = some m.cls := findClass_of_methodNamed Bd.named
  have hnm := (name_of_methodNamed Bd.named Bd.method).1
  have X0 : Stand p l e ({ frames := 0, cells := 0, slots := 0, locals := 0 } : Room) s m #[(.ref a1)] below meth c s₁ [] 0 0 := Stand.of_body Bd
  have e0 : s₁.heap = h0 := by rw [← hh, Bd.state]; rfl
  have N0 := Fr.nil n0
  have pre0 : ∀ tq, Steps p.tables e below (s₁.setTop (mkF m 0 #[.val (.ref a1)] [])) tq → Steps p.tables e below (s₁.setTop (entryFrame m #[(.ref a1)] 1)) tq := fun tq k => castTop (ef_14 m a1) k
  obtain ⟨T1, X1, e1, st1⟩ := getF X0 hx hZ hown (host := "") (Or.inl (hw _ (List.mem_of_getElem? (i := 91) rfl))) Via.refl e0 F1 (g := (mkF m 1 #[.val (.ref a1)] [(.ref a1)])) rfl rfl (hb hby d14_1)
  have k2 : ∀ tq, Steps p.tables e below (T1.setTop (mkF m 7 #[.val (.ref a1)] [(.int (500 : Int32)), (.int st)])) tq → Steps p.tables e below (s₁.setTop (entryFrame m #[(.ref a1)] 1)) tq := by
    intro tq kt
    refine pre0 tq ?_
    show Steps p.tables e below (s₁.setTop (mkF m 0 #[.val (.ref a1)] [])) _
    refine XS.aloadN X0.here hx rfl (hb hby d14_0) rfl rfl ?_
    show Steps p.tables e below (s₁.setTop (mkF m 1 #[.val (.ref a1)] [(.ref a1)])) _
    refine st1 _ ?_
    show Steps p.tables e below (T1.setTop (mkF m 4 #[.val (.ref a1)] [(.int st)])) _
    refine XS.sipush X1.here hx rfl (hb hby d14_4) ?_
    exact kt
  by_cases hc3 : st < (500 : Int32)
  · obtain ⟨fs, hr, hrun, hended, hW, hsame⟩ := X1.leave (v := some (.int (0 : Int32))) (fun h => by rw [Bd.returns] at h; cases h)
    refine ⟨_, _, k2 _ ?_, hrun, hended, _, _, rfl, ?_, ⟨_, rfl⟩, hW, hsame.mono (by decide) (by decide)⟩
    · show Steps p.tables e below (T1.setTop (mkF m 7 #[.val (.ref a1)] [(.int (500 : Int32)), (.int st)])) _
      refine XS.icmpYes X1.here hx rfl (pc0 := 7) (pc' := 14) rfl (hb hby d14_7) rfl (tlt hc3).1 (by decide) (by decide) ?_
      show Steps p.tables e below (T1.setTop (mkF m 14 #[.val (.ref a1)] [])) _
      refine XS.iconst X1.here hx rfl (hb hby d14_14) ?_
      show Steps p.tables e below (T1.setTop (mkF m 15 #[.val (.ref a1)] [(.int (0 : Int32))])) _
      exact retN X1 hx (t := .boolean) Bd.returns (by simp) (hb hby d14_15) hr
    · show own_QK Z a1 st h0 n0 _ T1.heap _
      rw [e1]
      exact ⟨congrArg (fun z => some (Value.int z)) (show (0 : Int32) = own_pass st from by unfold own_pass; rw [if_pos hc3]), N0, rfl⟩
  · obtain ⟨fs, hr, hrun, hended, hW, hsame⟩ := X1.leave (v := some (.int (1 : Int32))) (fun h => by rw [Bd.returns] at h; cases h)
    refine ⟨_, _, k2 _ ?_, hrun, hended, _, _, rfl, ?_, ⟨_, rfl⟩, hW, hsame.mono (by decide) (by decide)⟩
    · show Steps p.tables e below (T1.setTop (mkF m 7 #[.val (.ref a1)] [(.int (500 : Int32)), (.int st)])) _
      refine XS.icmpNo X1.here hx rfl (hb hby d14_7) rfl (flt hc3).1 ?_
      show Steps p.tables e below (T1.setTop (mkF m 10 #[.val (.ref a1)] [])) _
      refine XS.iconst X1.here hx rfl (hb hby d14_10) ?_
      show Steps p.tables e below (T1.setTop (mkF m 11 #[.val (.ref a1)] [(.int (1 : Int32))])) _
      refine XS.goto X1.here hx rfl (pc0 := 11) (pc' := 15) rfl (hb hby d14_11) (by decide) (by decide) ?_
      show Steps p.tables e below (T1.setTop (mkF m 15 #[.val (.ref a1)] [(.int (1 : Int32))])) _
      exact retN X1 hx (t := .boolean) Bd.returns (by simp) (hb hby d14_15) hr
    · show own_QK Z a1 st h0 n0 _ T1.heap _
      rw [e1]
      exact ⟨congrArg (fun z => some (Value.int z)) (show (1 : Int32) = own_pass st from by unfold own_pass; rw [if_neg hc3]), N0, rfl⟩
theorem pd_6 : parseMethodDescriptor "()V" = some ⟨[], none⟩ := by decide +kernel
theorem pd_7 : parseMethodDescriptor "(II)I" = some ⟨[.int, .int], some .int⟩ := by decide +kernel
theorem pd_8 : parseMethodDescriptor "(ILjava/lang/String;)V" = some ⟨[.int, (.object "java/lang/String")], none⟩ := by decide +kernel
theorem pd_9 : parseMethodDescriptor "()Z" = some ⟨[], some .boolean⟩ := by decide +kernel
def own_Q0 (Z : State) (is it ic w : Int32) (h0 : Heap) (n0 : Nat) (v : Option Value) (h : Heap) (L : List Loc) : Prop := v = some (.int 1) ∧ Fr n0 L
theorem pn_0 : plainName "com/example/hatchd/hatchd/server/ApiExceptionIsPassingPinLaw" = true := by first | (simp [plainName, overriddenIn]; done) | decide +kernel
theorem ef_0 (m : MethodId) (x0 : Int32) (x1 : Int32) (x2 : Int32) : entryFrame m #[(.int x0), (.int x1), (.int x2)] maxLocals = mkF m 0 #[.val (.int x0), .val (.int x1), .val (.int x2), .unset, .unset, .unset, .unset, .unset, .unset, .unset, .unset, .unset] [] := by first | (simp [entryFrame, mkF, argsToLocals, Value.category, maxLocals]; done) | rfl
set_option maxRecDepth 65536 in
set_option maxHeartbeats 40000000 in
theorem rm0 (l : Launch) (Z : State) (a0 : Array Value) (hw : ∀ d ∈ tables_1, d.before a0 Z = true) (ws : List Jvm.Cond) (is_ it_ ic_ w : Int32) (ua va : Addr) (h0 : Heap) (n0 : Nat) (Z0 : n0 ≤ h0.size) (S0 : Sta Z h0 "java/lang/String" "COMPACT_STRINGS" "Z" (.int w)) (hw0 : ¬ w = (0 : Int32)) (hl : l.stackTraces = true) (TS : ThS Z h0) (SU : Sta Z h0 "java/lang/Throwable" "UNASSIGNED_STACK" "[Ljava/lang/StackTraceElement;" (.ref ua)) (SS : Sta Z h0 "java/lang/Throwable" "SUPPRESSED_SENTINEL" "Ljava/util/List;" (.ref va)) :
    MetFree l x (head1 (Jvm.Cond.code x code maxLocals ret :: ws) room_1) (fun a U => a = #[(.int is_), (.int it_), (.int ic_)] ∧ Z.Warmed39 U.vm ∧ U.heap = h0) (fun _ _ bl s _ => s.vm.MethodsKnown ∧ s.vm.FramesKnown bl) (fun _ U o U' => ∃ v L, o = .returned v ∧ own_Q0 Z is_ it_ ic_ w h0 n0 v U'.heap L ∧ FrameEnd U o U' L room_1.cells room_1.slots) := by
  refine MetFree.of_bodySF (plainFor_of_name pn_0) hisR ?_
  intro p e s m args below meth c s₁ Bd hml0 hP hK
  obtain ⟨rfl, hZ, hh⟩ := hP
  have hx := Bd.exec
  have hby := Bd.bytes
  have hml : c.maxLocals = 12 := hml0
  have hown : s.vm.findClass "com/example/hatchd/hatchd/server/ApiExceptionIsPassingPinLaw" = some m.cls := findClass_of_methodNamed Bd.named
  have hnm := (name_of_methodNamed Bd.named Bd.method).1
  have X0 : Stand p l e room_1 s m #[(.int is_), (.int it_), (.int ic_)] below meth c s₁ [] 0 0 := Stand.of_body Bd
  have e0 : s₁.heap = h0 := by rw [← hh, Bd.state]; rfl
  have N0 := Fr.nil n0
  have pre0 : ∀ tq, Steps p.tables e below (s₁.setTop (mkF m 0 #[.val (.int is_), .val (.int it_), .val (.int ic_), .unset, .unset, .unset, .unset, .unset, .unset, .unset, .unset, .unset] [])) tq → Steps p.tables e below (s₁.setTop (entryFrame m #[(.int is_), (.int it_), (.int ic_)] maxLocals)) tq := fun tq k => castTop (ef_0 m is_ it_ ic_) k
  obtain ⟨hTK, hBelow⟩ := hK
  obtain ⟨T1, h1, k1, X1, e1, E1, A1, st1⟩ := newP X0 hx hZ (hw _ (List.mem_of_getElem? (i := 0) rfl)) e0 (g := (mkF m 1 #[.val (.int is_), .val (.int it_), .val (.int ic_), .unset, .unset, .unset, .unset, .unset, .unset, .unset, .unset, .unset] [(.int (1 : Int32))])) rfl (hb hby at_1) rfl (by decide) (cap := 1) (by decide) (by decide) (by decide) (by decide)
  obtain ⟨b1, g1⟩ : ∃ z, z = h0.size := ⟨_, rfl⟩
  rw [← g1] at A1 st1
  have g_b1 : n0 ≤ b1 := Nat.le_trans Z0 (Nat.le_of_eq g1.symm)
  have sz_b1 : h0.size ≤ b1 := Nat.le_trans (Keep.refl h0 []).1 (Nat.le_of_eq g1.symm)
  have f2 := S0.ext E1
  have z3 := Nat.le_trans Z0 E1.1
  have kp4 := (Keep.refl h0 []).ext E1
  have V_b1 : Arv Z h1 b1 k1 .char (1 : Int32) [(.int (0 : Int32))] (.int (0 : Int32)) := (Arv.new A1 (by decide)).pad (pad_rep [] (.int (0 : Int32)) 1)
  obtain ⟨clq5, Arq5, cq5, Sq5, nq5, Hq5, Gq5⟩ := id V_b1
  have hiq5 : ¬ ((0 : Int32) < 0 ∨ clq5.slots.size ≤ ((0 : Int32)).toNatClampNeg) := inb_of Sq5 ⟨by decide, by decide⟩
  obtain ⟨T6, h6, X6, e6, W6, st6⟩ := stC X1 hx hZ e1 Arq5 (j := (0 : Int32)) hiq5 (g := (mkF m 11 #[.val (.int is_), .val (.int it_), .val (.int ic_), .unset, .unset, .unset, .unset, .unset, .unset, .unset, .unset, .unset] [(.int ((ic_ &&& (255 : Int32)).toUInt32.toUInt16.toUInt32.toInt32)), (.int (0 : Int32)), (.ref b1), (.ref b1)])) rfl rfl (hb hby at_11)
  have v7 : Arv Z h6 b1 k1 .char (1 : Int32) [(.int (nar .char ((ic_ &&& (255 : Int32)).toUInt32.toUInt16.toUInt32.toInt32)))] (.int (0 : Int32)) := Arv.set Arq5 cq5 Sq5 nq5 Hq5 Gq5 (fits_nar_char _) W6 0 rfl (Nat.le_of_ble_eq_true rfl)
  have f8 := f2.wr W6
  have kp9 := kp4.wr W6 (Or.inr sz_b1)
  have z10 := Nat.le_trans z3 (Keep.of_wr W6).1
  have N11 := Fr.snoc X6 N0 g_b1
  obtain ⟨T12, h12, X12, e12, E12, A12, D12, U12, st12⟩ := newO X6 hx hZ hown (hw _ (List.mem_of_getElem? (i := 1) rfl)) (hw _ (List.mem_of_getElem? (i := 2) rfl)) (hw _ (List.mem_of_getElem? (i := 3) rfl)) e6 (g := (mkF m 13 #[.val (.int is_), .val (.int it_), .val (.int ic_), .val (.ref b1), .unset, .unset, .unset, .unset, .unset, .unset, .unset, .unset] [])) rfl (hb hby at_13) (by decide) (by decide)
  obtain ⟨b12, g12⟩ : ∃ z, z = h6.size := ⟨_, rfl⟩
  rw [← g12] at A12 D12 U12 st12
  have ne_b1_b12 : b1 ≠ b12 := Nat.ne_of_lt (Nat.lt_of_lt_of_le v7.lt (Nat.le_of_eq g12.symm))
  have g_b12 : n0 ≤ b12 := Nat.le_trans z10 (Nat.le_of_eq g12.symm)
  have sz_b12 : h0.size ≤ b12 := Nat.le_trans kp9.1 (Nat.le_of_eq g12.symm)
  have f13 := f8.ext E12
  have f14 := v7.ext E12
  have z15 := Nat.le_trans z10 E12.1
  have kp16 := kp9.ext E12
  have F_coder_b12 : Fld Z h12 b12 "java/lang/String" "coder" "B" (.int (0 : Int32)) := D12 (Or.inr (hw _ (List.mem_of_getElem? (i := 27) rfl))) (ty := .byte) (by decide)
  have F_value_b12 : Fld Z h12 b12 "java/lang/String" "value" "[B" .null := D12 (Or.inr (hw _ (List.mem_of_getElem? (i := 29) rfl))) (ty := (.array .byte)) (by decide)
  obtain ⟨_, _, ⟨T17, L17, k17, n17⟩, -, X17, ⟨Lc17, hQ17, l17, y17, z17⟩, st17⟩ := X12.specialBack hx (y := (⟨"java/lang/String", "<init>", "([C)V"⟩ : MethodName)) rfl hown (mvT hZ (hw _ (List.mem_of_getElem? (i := 4) rfl))) (mvT hZ (hw _ (List.mem_of_getElem? (i := 5) rfl))) (mvT hZ (hw _ (List.mem_of_getElem? (i := 6) rfl))) (by decide) (backOf (W := 1) (rm1 l Z a0 hw [] b12 b1 k1 (nar .char ((ic_ &&& (255 : Int32)).toUInt32.toUInt16.toUInt32.toInt32)) w h12 n0 z15 A12 F_value_b12 F_coder_b12 g_b12 ne_b1_b12 f13 hw0 (own_char ic_) f14) hZ (hw _ (List.mem_of_getElem? (i := 6) rfl)) (hw _ (List.mem_of_getElem? (i := 3) rfl)) (by decide) (by decide)) (g := (mkF m 18 #[.val (.int is_), .val (.int it_), .val (.int ic_), .val (.ref b1), .unset, .unset, .unset, .unset, .unset, .unset, .unset, .unset] [(.ref b1), (.ref b12), (.ref b12)])) rfl (by rw [hml]; rfl) (Steps.refl _) (a := b12) (argsL := [(.ref b1)]) (rest := [(.ref b12)]) (lenOf pd_0 rfl) rfl (by show 2 * 0 + _ ≤ _; exact Nat.le_of_eq rfl) (hb hby at_18) (fun _ _ => ⟨rfl, e12, (by decide : 2 + 1 ≤ _), (by decide : 5 + 1 ≤ _)⟩)
  dsimp only [Pt.U, Pt.locs, Pt.cells, Pt.slots] at X17 l17 y17 z17 st17 hQ17
  subst l17 y17 z17
  obtain ⟨rfl, N17q, K17, Eo17⟩ := hQ17
  have N17 := Fr.app N11 N17q
  have f18 := f14.keep K17 (ninS ne_b1_b12 nin0)
  have f19 := A12.keep K17
  have z20 := Nat.le_trans z15 K17.1
  have kp21 := Keep.trans kp16 K17 (allS (Or.inr sz_b12) all0)
  obtain ⟨_, _, ⟨T22, L22, k22, n22⟩, -, X22, ⟨Lc22, hQ22, l22, y22, z22⟩, st22⟩ := Jvm.LawKit.callS X17 hx (y := (⟨"java/lang/Math", "min", "(II)I"⟩ : MethodName)) hown (mvT hZ (hw _ (List.mem_of_getElem? (i := 30) rfl))) (mvT hZ (hw _ (List.mem_of_getElem? (i := 31) rfl))) (mvT hZ (hw _ (List.mem_of_getElem? (i := 32) rfl))) (mvT hZ (hw _ (List.mem_of_getElem? (i := 33) rfl))) (by decide) (backOf (W := 0) (rm_min l Z a0 hw [] is_ it_ T17.heap n0 z20) hZ (hw _ (List.mem_of_getElem? (i := 33) rfl)) (hw _ (List.mem_of_getElem? (i := 32) rfl)) (by decide) (by decide)) (g := (mkF m 25 #[.val (.int is_), .val (.int it_), .val (.int ic_), .val (.ref b1), .val (.ref b12), .unset, .unset, .unset, .unset, .unset, .unset, .unset] [(.int it_), (.int is_)])) rfl (by rw [hml]; rfl) (argsL := [(.int is_), (.int it_)]) (rest := []) (lenOf pd_7 rfl) rfl (by show 2 * 0 + _ ≤ _; exact Nat.le_of_eq rfl) (hb hby at_25) (fun _ _ => ⟨rfl, rfl, (by decide : 3 + 0 ≤ _), (by decide : 6 + 0 ≤ _)⟩)
  dsimp only [Pt.U, Pt.locs, Pt.cells, Pt.slots] at X22 l22 y22 z22 st22 hQ22
  subst l22 y22 z22
  obtain ⟨rfl, N22q, e22⟩ := hQ22
  have N22 := Fr.app N17 N22q
  obtain ⟨_, _, ⟨T23, L23, k23, n23⟩, -, X23, ⟨Lc23, hQ23, l23, y23, z23⟩, st23⟩ := Jvm.LawKit.callS X22 hx (y := (⟨"java/lang/Math", "max", "(II)I"⟩ : MethodName)) hown (mvT hZ (hw _ (List.mem_of_getElem? (i := 34) rfl))) (mvT hZ (hw _ (List.mem_of_getElem? (i := 35) rfl))) (mvT hZ (hw _ (List.mem_of_getElem? (i := 32) rfl))) (mvT hZ (hw _ (List.mem_of_getElem? (i := 36) rfl))) (by decide) (backOf (W := 0) (rm_max l Z a0 hw [] is_ it_ T17.heap n0 z20) hZ (hw _ (List.mem_of_getElem? (i := 36) rfl)) (hw _ (List.mem_of_getElem? (i := 32) rfl)) (by decide) (by decide)) (g := (mkF m 32 #[.val (.int is_), .val (.int it_), .val (.int ic_), .val (.ref b1), .val (.ref b12), .val (.int (own_min is_ it_)), .unset, .unset, .unset, .unset, .unset, .unset] [(.int it_), (.int is_)])) rfl (by rw [hml]; rfl) (argsL := [(.int is_), (.int it_)]) (rest := []) (lenOf pd_7 rfl) rfl (by show 2 * 0 + _ ≤ _; exact Nat.le_of_eq rfl) (hb hby at_32) (fun _ _ => ⟨rfl, e22, (by decide : 3 + 0 ≤ _), (by decide : 6 + 0 ≤ _)⟩)
  dsimp only [Pt.U, Pt.locs, Pt.cells, Pt.slots] at X23 l23 y23 z23 st23 hQ23
  subst l23 y23 z23
  obtain ⟨rfl, N23q, e23⟩ := hQ23
  have N23 := Fr.app N22 N23q
  obtain ⟨T24, h24, X24, e24, E24, A24, D24, U24, st24⟩ := newO X23 hx hZ hown (hw _ (List.mem_of_getElem? (i := 37) rfl)) (hw _ (List.mem_of_getElem? (i := 38) rfl)) (hw _ (List.mem_of_getElem? (i := 39) rfl)) e23 (g := (mkF m 37 #[.val (.int is_), .val (.int it_), .val (.int ic_), .val (.ref b1), .val (.ref b12), .val (.int (own_min is_ it_)), .val (.int (own_max is_ it_)), .unset, .unset, .unset, .unset, .unset] [])) rfl (hb hby at_37) (by decide) (by decide)
  obtain ⟨b24, g24⟩ : ∃ z, z = T17.heap.size := ⟨_, rfl⟩
  rw [← g24] at A24 D24 U24 st24
  have ne_b1_b24 : b1 ≠ b24 := Nat.ne_of_lt (Nat.lt_of_lt_of_le f18.lt (Nat.le_of_eq g24.symm))
  have ne_b12_b24 : b12 ≠ b24 := Nat.ne_of_lt (Nat.lt_of_lt_of_le Eo17.lt (Nat.le_of_eq g24.symm))
  have g_b24 : n0 ≤ b24 := Nat.le_trans z20 (Nat.le_of_eq g24.symm)
  have sz_b24 : h0.size ≤ b24 := Nat.le_trans kp21.1 (Nat.le_of_eq g24.symm)
  have f25 := f18.ext E24
  have f26 := Eo17.ext E24
  have z27 := Nat.le_trans z20 E24.1
  have kp28 := kp21.ext E24
  have F_cause_b24 : Fld Z h24 b24 "java/lang/Throwable" "cause" "Ljava/lang/Throwable;" .null := D24 (Or.inl (hw _ (List.mem_of_getElem? (i := 56) rfl))) (ty := (.object "java/lang/Throwable")) (by decide)
  have F_stackTrace_b24 : Fld Z h24 b24 "java/lang/Throwable" "stackTrace" "[Ljava/lang/StackTraceElement;" .null := D24 (Or.inl (hw _ (List.mem_of_getElem? (i := 59) rfl))) (ty := (.array (.object "java/lang/StackTraceElement"))) (by decide)
  have F_suppressedExceptions_b24 : Fld Z h24 b24 "java/lang/Throwable" "suppressedExceptions" "Ljava/util/List;" .null := D24 (Or.inl (hw _ (List.mem_of_getElem? (i := 62) rfl))) (ty := (.object "java/util/List")) (by decide)
  have F_detailMessage_b24 : Fld Z h24 b24 "java/lang/Throwable" "detailMessage" "Ljava/lang/String;" .null := D24 (Or.inl (hw _ (List.mem_of_getElem? (i := 86) rfl))) (ty := (.object "java/lang/String")) (by decide)
  have F_backtrace_b24 : Fld Z h24 b24 "java/lang/Throwable" "backtrace" "Ljava/lang/Object;" .null := D24 (Or.inl (hw _ (List.mem_of_getElem? (i := 87) rfl))) (ty := (.object "java/lang/Object")) (by decide)
  have F_depth_b24 : Fld Z h24 b24 "java/lang/Throwable" "depth" "I" (.int (0 : Int32)) := D24 (Or.inl (hw _ (List.mem_of_getElem? (i := 88) rfl))) (ty := .int) (by decide)
  have F_status_b24 : Fld Z h24 b24 "com/example/hatchd/hatchd/server/ApiException" "status" "I" (.int (0 : Int32)) := D24 (Or.inr (hw _ (List.mem_of_getElem? (i := 92) rfl))) (ty := .int) (by decide)
  obtain ⟨_, _, ⟨T29, L29, k29, n29⟩, -, X29, ⟨Lc29, hQ29, l29, y29, z29⟩, st29⟩ := X24.specialBack hx (y := (⟨"com/example/hatchd/hatchd/server/ApiException", "<init>", "(ILjava/lang/String;)V"⟩ : MethodName)) rfl hown (mvT hZ (hw _ (List.mem_of_getElem? (i := 40) rfl))) (mvT hZ (hw _ (List.mem_of_getElem? (i := 41) rfl))) (mvT hZ (hw _ (List.mem_of_getElem? (i := 42) rfl))) (by decide) (backOfKL (W := 1) (rmX l Z a0 hw [] b24 (own_min is_ it_) b12 ua va h24 n0 z27 hl (ThS.keep kp28 (fun _ q => nomatch q) TS) (own_sta_keep SU kp28) (own_sta_keep SS kp28) A24 U24 F_backtrace_b24 F_cause_b24 F_stackTrace_b24 F_suppressedExceptions_b24 g_b24 F_status_b24) hZ (hw _ (List.mem_of_getElem? (i := 42) rfl)) (hw _ (List.mem_of_getElem? (i := 39) rfl)) (by decide) (by decide) hTK hBelow) (g := (mkF m 45 #[.val (.int is_), .val (.int it_), .val (.int ic_), .val (.ref b1), .val (.ref b12), .val (.int (own_min is_ it_)), .val (.int (own_max is_ it_)), .unset, .unset, .unset, .unset, .unset] [(.ref b12), (.int (own_min is_ it_)), (.ref b24), (.ref b24)])) rfl (by rw [hml]; rfl) (Steps.refl _) (a := b24) (argsL := [(.int (own_min is_ it_)), (.ref b12)]) (rest := [(.ref b24)]) (lenOf pd_8 rfl) rfl (by show 2 * 0 + _ ≤ _; exact Nat.le_of_eq rfl) (hb hby at_45) (fun _ _ => ⟨rfl, e24, (by decide : 4 + 1 ≤ _), (by decide : 13 + 2752 ≤ _)⟩)
  dsimp only [Pt.U, Pt.locs, Pt.cells, Pt.slots] at X29 l29 y29 z29 st29 hQ29
  subst l29 y29 z29
  obtain ⟨rfl, N29q, K29, Eo29, Fs29⟩ := hQ29
  have N29 := Fr.app N23 N29q
  have f30 := f25.keep K29 (ninS ne_b1_b24 nin0)
  have f31 := f26.keep K29
  have f32 := A24.keep K29
  have z33 := Nat.le_trans z27 K29.1
  have kp34 := Keep.trans kp28 K29 (allS (Or.inr sz_b24) all0)
  obtain ⟨cq35, kq35, q35a, q35b, q35c⟩ := isOf hZ rfl Eo29
  obtain ⟨_, _, ⟨T35, L35, k35, n35⟩, -, X35, ⟨Lc35, hQ35, l35, y35, z35⟩, st35⟩ := X29.virtualBack hx (y := (⟨"com/example/hatchd/hatchd/server/ApiException", "isPassing", "()Z"⟩ : MethodName)) (z := (⟨"com/example/hatchd/hatchd/server/ApiException", "isPassing", "()Z"⟩ : MethodName)) hown (mvT hZ (hw _ (List.mem_of_getElem? (i := 93) rfl))) (mvT hZ (hw _ (List.mem_of_getElem? (i := 94) rfl))) (notFace_of_selects (args := #[]) (mvT hZ (hw _ (List.mem_of_getElem? (i := 96) rfl)))) (mvT hZ (hw _ (List.mem_of_getElem? (i := 96) rfl))) (mvT hZ (hw _ (List.mem_of_getElem? (i := 95) rfl))) (by decide) (backOf (W := 0) (rmK l Z a0 hw [] b24 (own_min is_ it_) T29.heap n0 z33 Fs29) hZ (hw _ (List.mem_of_getElem? (i := 97) rfl)) (hw _ (List.mem_of_getElem? (i := 39) rfl)) (by decide) (by decide)) q35a q35c (g := (mkF m 48 #[.val (.int is_), .val (.int it_), .val (.int ic_), .val (.ref b1), .val (.ref b12), .val (.int (own_min is_ it_)), .val (.int (own_max is_ it_)), .unset, .unset, .unset, .unset, .unset] [(.ref b24)])) rfl (by rw [hml]; rfl) (Steps.refl _) (argsL := []) (rest := []) (lenOf pd_9 rfl) rfl (by show 2 * 0 + _ ≤ _; exact Nat.le_of_eq rfl) (hb hby at_48) (fun _ _ => ⟨rfl, rfl, (by decide : 5 + 0 ≤ _), (by decide : 2765 + 0 ≤ _)⟩)
  dsimp only [Pt.U, Pt.locs, Pt.cells, Pt.slots] at X35 l35 y35 z35 st35 hQ35
  subst l35 y35 z35
  obtain ⟨rfl, N35q, e35⟩ := hQ35
  have N35 := Fr.app N29 N35q
  obtain ⟨T36, h36, X36, e36, E36, A36, D36, U36, st36⟩ := newO X35 hx hZ hown (hw _ (List.mem_of_getElem? (i := 37) rfl)) (hw _ (List.mem_of_getElem? (i := 38) rfl)) (hw _ (List.mem_of_getElem? (i := 39) rfl)) e35 (g := (mkF m 53 #[.val (.int is_), .val (.int it_), .val (.int ic_), .val (.ref b1), .val (.ref b12), .val (.int (own_min is_ it_)), .val (.int (own_max is_ it_)), .val (.int (own_pass (own_min is_ it_))), .unset, .unset, .unset, .unset] [])) rfl (hb hby at_53) (by decide) (by decide)
  obtain ⟨b36, g36⟩ : ∃ z, z = T29.heap.size := ⟨_, rfl⟩
  rw [← g36] at A36 D36 U36 st36
  have ne_b1_b36 : b1 ≠ b36 := Nat.ne_of_lt (Nat.lt_of_lt_of_le f30.lt (Nat.le_of_eq g36.symm))
  have ne_b12_b36 : b12 ≠ b36 := Nat.ne_of_lt (Nat.lt_of_lt_of_le f31.lt (Nat.le_of_eq g36.symm))
  have ne_b24_b36 : b24 ≠ b36 := Nat.ne_of_lt (Nat.lt_of_lt_of_le Eo29.lt (Nat.le_of_eq g36.symm))
  have g_b36 : n0 ≤ b36 := Nat.le_trans z33 (Nat.le_of_eq g36.symm)
  have sz_b36 : h0.size ≤ b36 := Nat.le_trans kp34.1 (Nat.le_of_eq g36.symm)
  have f37 := f30.ext E36
  have f38 := f31.ext E36
  have f39 := Eo29.ext E36
  have f40 := Fs29.ext E36
  have z41 := Nat.le_trans z33 E36.1
  have kp42 := kp34.ext E36
  have F_cause_b36 : Fld Z h36 b36 "java/lang/Throwable" "cause" "Ljava/lang/Throwable;" .null := D36 (Or.inl (hw _ (List.mem_of_getElem? (i := 56) rfl))) (ty := (.object "java/lang/Throwable")) (by decide)
  have F_stackTrace_b36 : Fld Z h36 b36 "java/lang/Throwable" "stackTrace" "[Ljava/lang/StackTraceElement;" .null := D36 (Or.inl (hw _ (List.mem_of_getElem? (i := 59) rfl))) (ty := (.array (.object "java/lang/StackTraceElement"))) (by decide)
  have F_suppressedExceptions_b36 : Fld Z h36 b36 "java/lang/Throwable" "suppressedExceptions" "Ljava/util/List;" .null := D36 (Or.inl (hw _ (List.mem_of_getElem? (i := 62) rfl))) (ty := (.object "java/util/List")) (by decide)
  have F_detailMessage_b36 : Fld Z h36 b36 "java/lang/Throwable" "detailMessage" "Ljava/lang/String;" .null := D36 (Or.inl (hw _ (List.mem_of_getElem? (i := 86) rfl))) (ty := (.object "java/lang/String")) (by decide)
  have F_backtrace_b36 : Fld Z h36 b36 "java/lang/Throwable" "backtrace" "Ljava/lang/Object;" .null := D36 (Or.inl (hw _ (List.mem_of_getElem? (i := 87) rfl))) (ty := (.object "java/lang/Object")) (by decide)
  have F_depth_b36 : Fld Z h36 b36 "java/lang/Throwable" "depth" "I" (.int (0 : Int32)) := D36 (Or.inl (hw _ (List.mem_of_getElem? (i := 88) rfl))) (ty := .int) (by decide)
  have F_status_b36 : Fld Z h36 b36 "com/example/hatchd/hatchd/server/ApiException" "status" "I" (.int (0 : Int32)) := D36 (Or.inr (hw _ (List.mem_of_getElem? (i := 92) rfl))) (ty := .int) (by decide)
  obtain ⟨_, _, ⟨T43, L43, k43, n43⟩, -, X43, ⟨Lc43, hQ43, l43, y43, z43⟩, st43⟩ := X36.specialBack hx (y := (⟨"com/example/hatchd/hatchd/server/ApiException", "<init>", "(ILjava/lang/String;)V"⟩ : MethodName)) rfl hown (mvT hZ (hw _ (List.mem_of_getElem? (i := 40) rfl))) (mvT hZ (hw _ (List.mem_of_getElem? (i := 41) rfl))) (mvT hZ (hw _ (List.mem_of_getElem? (i := 42) rfl))) (by decide) (backOfKL (W := 1) (rmX l Z a0 hw [] b36 (own_max is_ it_) b12 ua va h36 n0 z41 hl (ThS.keep kp42 (fun _ q => nomatch q) TS) (own_sta_keep SU kp42) (own_sta_keep SS kp42) A36 U36 F_backtrace_b36 F_cause_b36 F_stackTrace_b36 F_suppressedExceptions_b36 g_b36 F_status_b36) hZ (hw _ (List.mem_of_getElem? (i := 42) rfl)) (hw _ (List.mem_of_getElem? (i := 39) rfl)) (by decide) (by decide) hTK hBelow) (g := (mkF m 61 #[.val (.int is_), .val (.int it_), .val (.int ic_), .val (.ref b1), .val (.ref b12), .val (.int (own_min is_ it_)), .val (.int (own_max is_ it_)), .val (.int (own_pass (own_min is_ it_))), .unset, .unset, .unset, .unset] [(.ref b12), (.int (own_max is_ it_)), (.ref b36), (.ref b36)])) rfl (by rw [hml]; rfl) (Steps.refl _) (a := b36) (argsL := [(.int (own_max is_ it_)), (.ref b12)]) (rest := [(.ref b36)]) (lenOf pd_8 rfl) rfl (by show 2 * 0 + _ ≤ _; exact Nat.le_of_eq rfl) (hb hby at_61) (fun _ _ => ⟨rfl, e36, (by decide : 6 + 1 ≤ _), (by decide : 2772 + 2752 ≤ _)⟩)
  dsimp only [Pt.U, Pt.locs, Pt.cells, Pt.slots] at X43 l43 y43 z43 st43 hQ43
  subst l43 y43 z43
  obtain ⟨rfl, N43q, K43, Eo43, Fs43⟩ := hQ43
  have N43 := Fr.app N35 N43q
  have f44 := f37.keep K43 (ninS ne_b1_b36 nin0)
  have f45 := f38.keep K43
  have f46 := f39.keep K43
  have f47 := f40.keep K43 (ninS ne_b24_b36 nin0)
  have f48 := A36.keep K43
  have z49 := Nat.le_trans z41 K43.1
  have kp50 := Keep.trans kp42 K43 (allS (Or.inr sz_b36) all0)
  obtain ⟨cq51, kq51, q51a, q51b, q51c⟩ := isOf hZ rfl Eo43
  obtain ⟨_, _, ⟨T51, L51, k51, n51⟩, -, X51, ⟨Lc51, hQ51, l51, y51, z51⟩, st51⟩ := X43.virtualBack hx (y := (⟨"com/example/hatchd/hatchd/server/ApiException", "isPassing", "()Z"⟩ : MethodName)) (z := (⟨"com/example/hatchd/hatchd/server/ApiException", "isPassing", "()Z"⟩ : MethodName)) hown (mvT hZ (hw _ (List.mem_of_getElem? (i := 93) rfl))) (mvT hZ (hw _ (List.mem_of_getElem? (i := 94) rfl))) (notFace_of_selects (args := #[]) (mvT hZ (hw _ (List.mem_of_getElem? (i := 96) rfl)))) (mvT hZ (hw _ (List.mem_of_getElem? (i := 96) rfl))) (mvT hZ (hw _ (List.mem_of_getElem? (i := 95) rfl))) (by decide) (backOf (W := 0) (rmK l Z a0 hw [] b36 (own_max is_ it_) T43.heap n0 z49 Fs43) hZ (hw _ (List.mem_of_getElem? (i := 97) rfl)) (hw _ (List.mem_of_getElem? (i := 39) rfl)) (by decide) (by decide)) q51a q51c (g := (mkF m 64 #[.val (.int is_), .val (.int it_), .val (.int ic_), .val (.ref b1), .val (.ref b12), .val (.int (own_min is_ it_)), .val (.int (own_max is_ it_)), .val (.int (own_pass (own_min is_ it_))), .unset, .unset, .unset, .unset] [(.ref b36)])) rfl (by rw [hml]; rfl) (Steps.refl _) (argsL := []) (rest := []) (lenOf pd_9 rfl) rfl (by show 2 * 0 + _ ≤ _; exact Nat.le_of_eq rfl) (hb hby at_64) (fun _ _ => ⟨rfl, rfl, (by decide : 7 + 0 ≤ _), (by decide : 5524 + 0 ≤ _)⟩)
  dsimp only [Pt.U, Pt.locs, Pt.cells, Pt.slots] at X51 l51 y51 z51 st51 hQ51
  subst l51 y51 z51
  obtain ⟨rfl, N51q, e51⟩ := hQ51
  have N51 := Fr.app N43 N51q
  obtain ⟨T52, h52, X52, e52, E52, A52, D52, U52, st52⟩ := newO X51 hx hZ hown (hw _ (List.mem_of_getElem? (i := 37) rfl)) (hw _ (List.mem_of_getElem? (i := 38) rfl)) (hw _ (List.mem_of_getElem? (i := 39) rfl)) e51 (g := (mkF m 69 #[.val (.int is_), .val (.int it_), .val (.int ic_), .val (.ref b1), .val (.ref b12), .val (.int (own_min is_ it_)), .val (.int (own_max is_ it_)), .val (.int (own_pass (own_min is_ it_))), .val (.int (own_pass (own_max is_ it_))), .unset, .unset, .unset] [])) rfl (hb hby at_69) (by decide) (by decide)
  obtain ⟨b52, g52⟩ : ∃ z, z = T43.heap.size := ⟨_, rfl⟩
  rw [← g52] at A52 D52 U52 st52
  have ne_b1_b52 : b1 ≠ b52 := Nat.ne_of_lt (Nat.lt_of_lt_of_le f44.lt (Nat.le_of_eq g52.symm))
  have ne_b12_b52 : b12 ≠ b52 := Nat.ne_of_lt (Nat.lt_of_lt_of_le f45.lt (Nat.le_of_eq g52.symm))
  have ne_b24_b52 : b24 ≠ b52 := Nat.ne_of_lt (Nat.lt_of_lt_of_le f46.lt (Nat.le_of_eq g52.symm))
  have ne_b36_b52 : b36 ≠ b52 := Nat.ne_of_lt (Nat.lt_of_lt_of_le Eo43.lt (Nat.le_of_eq g52.symm))
  have g_b52 : n0 ≤ b52 := Nat.le_trans z49 (Nat.le_of_eq g52.symm)
  have sz_b52 : h0.size ≤ b52 := Nat.le_trans kp50.1 (Nat.le_of_eq g52.symm)
  have f53 := f44.ext E52
  have f54 := f45.ext E52
  have f55 := f46.ext E52
  have f56 := f47.ext E52
  have f57 := Eo43.ext E52
  have f58 := Fs43.ext E52
  have z59 := Nat.le_trans z49 E52.1
  have kp60 := kp50.ext E52
  have F_cause_b52 : Fld Z h52 b52 "java/lang/Throwable" "cause" "Ljava/lang/Throwable;" .null := D52 (Or.inl (hw _ (List.mem_of_getElem? (i := 56) rfl))) (ty := (.object "java/lang/Throwable")) (by decide)
  have F_stackTrace_b52 : Fld Z h52 b52 "java/lang/Throwable" "stackTrace" "[Ljava/lang/StackTraceElement;" .null := D52 (Or.inl (hw _ (List.mem_of_getElem? (i := 59) rfl))) (ty := (.array (.object "java/lang/StackTraceElement"))) (by decide)
  have F_suppressedExceptions_b52 : Fld Z h52 b52 "java/lang/Throwable" "suppressedExceptions" "Ljava/util/List;" .null := D52 (Or.inl (hw _ (List.mem_of_getElem? (i := 62) rfl))) (ty := (.object "java/util/List")) (by decide)
  have F_detailMessage_b52 : Fld Z h52 b52 "java/lang/Throwable" "detailMessage" "Ljava/lang/String;" .null := D52 (Or.inl (hw _ (List.mem_of_getElem? (i := 86) rfl))) (ty := (.object "java/lang/String")) (by decide)
  have F_backtrace_b52 : Fld Z h52 b52 "java/lang/Throwable" "backtrace" "Ljava/lang/Object;" .null := D52 (Or.inl (hw _ (List.mem_of_getElem? (i := 87) rfl))) (ty := (.object "java/lang/Object")) (by decide)
  have F_depth_b52 : Fld Z h52 b52 "java/lang/Throwable" "depth" "I" (.int (0 : Int32)) := D52 (Or.inl (hw _ (List.mem_of_getElem? (i := 88) rfl))) (ty := .int) (by decide)
  have F_status_b52 : Fld Z h52 b52 "com/example/hatchd/hatchd/server/ApiException" "status" "I" (.int (0 : Int32)) := D52 (Or.inr (hw _ (List.mem_of_getElem? (i := 92) rfl))) (ty := .int) (by decide)
  obtain ⟨_, _, ⟨T61, L61, k61, n61⟩, -, X61, ⟨Lc61, hQ61, l61, y61, z61⟩, st61⟩ := X52.specialBack hx (y := (⟨"com/example/hatchd/hatchd/server/ApiException", "<init>", "(ILjava/lang/String;)V"⟩ : MethodName)) rfl hown (mvT hZ (hw _ (List.mem_of_getElem? (i := 40) rfl))) (mvT hZ (hw _ (List.mem_of_getElem? (i := 41) rfl))) (mvT hZ (hw _ (List.mem_of_getElem? (i := 42) rfl))) (by decide) (backOfKL (W := 1) (rmX l Z a0 hw [] b52 (499 : Int32) b12 ua va h52 n0 z59 hl (ThS.keep kp60 (fun _ q => nomatch q) TS) (own_sta_keep SU kp60) (own_sta_keep SS kp60) A52 U52 F_backtrace_b52 F_cause_b52 F_stackTrace_b52 F_suppressedExceptions_b52 g_b52 F_status_b52) hZ (hw _ (List.mem_of_getElem? (i := 42) rfl)) (hw _ (List.mem_of_getElem? (i := 39) rfl)) (by decide) (by decide) hTK hBelow) (g := (mkF m 78 #[.val (.int is_), .val (.int it_), .val (.int ic_), .val (.ref b1), .val (.ref b12), .val (.int (own_min is_ it_)), .val (.int (own_max is_ it_)), .val (.int (own_pass (own_min is_ it_))), .val (.int (own_pass (own_max is_ it_))), .unset, .unset, .unset] [(.ref b12), (.int (499 : Int32)), (.ref b52), (.ref b52)])) rfl (by rw [hml]; rfl) (Steps.refl _) (a := b52) (argsL := [(.int (499 : Int32)), (.ref b12)]) (rest := [(.ref b52)]) (lenOf pd_8 rfl) rfl (by show 2 * 0 + _ ≤ _; exact Nat.le_of_eq rfl) (hb hby at_78) (fun _ _ => ⟨rfl, e52, (by decide : 8 + 1 ≤ _), (by decide : 5531 + 2752 ≤ _)⟩)
  dsimp only [Pt.U, Pt.locs, Pt.cells, Pt.slots] at X61 l61 y61 z61 st61 hQ61
  subst l61 y61 z61
  obtain ⟨rfl, N61q, K61, Eo61, Fs61⟩ := hQ61
  have N61 := Fr.app N51 N61q
  have f62 := f53.keep K61 (ninS ne_b1_b52 nin0)
  have f63 := f54.keep K61
  have f64 := f55.keep K61
  have f65 := f56.keep K61 (ninS ne_b24_b52 nin0)
  have f66 := f57.keep K61
  have f67 := f58.keep K61 (ninS ne_b36_b52 nin0)
  have f68 := A52.keep K61
  have z69 := Nat.le_trans z59 K61.1
  have kp70 := Keep.trans kp60 K61 (allS (Or.inr sz_b52) all0)
  obtain ⟨cq71, kq71, q71a, q71b, q71c⟩ := isOf hZ rfl Eo61
  obtain ⟨_, _, ⟨T71, L71, k71, n71⟩, -, X71, ⟨Lc71, hQ71, l71, y71, z71⟩, st71⟩ := X61.virtualBack hx (y := (⟨"com/example/hatchd/hatchd/server/ApiException", "isPassing", "()Z"⟩ : MethodName)) (z := (⟨"com/example/hatchd/hatchd/server/ApiException", "isPassing", "()Z"⟩ : MethodName)) hown (mvT hZ (hw _ (List.mem_of_getElem? (i := 93) rfl))) (mvT hZ (hw _ (List.mem_of_getElem? (i := 94) rfl))) (notFace_of_selects (args := #[]) (mvT hZ (hw _ (List.mem_of_getElem? (i := 96) rfl)))) (mvT hZ (hw _ (List.mem_of_getElem? (i := 96) rfl))) (mvT hZ (hw _ (List.mem_of_getElem? (i := 95) rfl))) (by decide) (backOf (W := 0) (rmK l Z a0 hw [] b52 (499 : Int32) T61.heap n0 z69 Fs61) hZ (hw _ (List.mem_of_getElem? (i := 97) rfl)) (hw _ (List.mem_of_getElem? (i := 39) rfl)) (by decide) (by decide)) q71a q71c (g := (mkF m 81 #[.val (.int is_), .val (.int it_), .val (.int ic_), .val (.ref b1), .val (.ref b12), .val (.int (own_min is_ it_)), .val (.int (own_max is_ it_)), .val (.int (own_pass (own_min is_ it_))), .val (.int (own_pass (own_max is_ it_))), .unset, .unset, .unset] [(.ref b52)])) rfl (by rw [hml]; rfl) (Steps.refl _) (argsL := []) (rest := []) (lenOf pd_9 rfl) rfl (by show 2 * 0 + _ ≤ _; exact Nat.le_of_eq rfl) (hb hby at_81) (fun _ _ => ⟨rfl, rfl, (by decide : 9 + 0 ≤ _), (by decide : 8283 + 0 ≤ _)⟩)
  dsimp only [Pt.U, Pt.locs, Pt.cells, Pt.slots] at X71 l71 y71 z71 st71 hQ71
  subst l71 y71 z71
  obtain ⟨rfl, N71q, e71⟩ := hQ71
  have N71 := Fr.app N61 N71q
  obtain ⟨T72, h72, X72, e72, E72, A72, D72, U72, st72⟩ := newO X71 hx hZ hown (hw _ (List.mem_of_getElem? (i := 37) rfl)) (hw _ (List.mem_of_getElem? (i := 38) rfl)) (hw _ (List.mem_of_getElem? (i := 39) rfl)) e71 (g := (mkF m 86 #[.val (.int is_), .val (.int it_), .val (.int ic_), .val (.ref b1), .val (.ref b12), .val (.int (own_min is_ it_)), .val (.int (own_max is_ it_)), .val (.int (own_pass (own_min is_ it_))), .val (.int (own_pass (own_max is_ it_))), .val (.int (own_pass (499 : Int32))), .unset, .unset] [])) rfl (hb hby at_86) (by decide) (by decide)
  obtain ⟨b72, g72⟩ : ∃ z, z = T61.heap.size := ⟨_, rfl⟩
  rw [← g72] at A72 D72 U72 st72
  have ne_b1_b72 : b1 ≠ b72 := Nat.ne_of_lt (Nat.lt_of_lt_of_le f62.lt (Nat.le_of_eq g72.symm))
  have ne_b12_b72 : b12 ≠ b72 := Nat.ne_of_lt (Nat.lt_of_lt_of_le f63.lt (Nat.le_of_eq g72.symm))
  have ne_b24_b72 : b24 ≠ b72 := Nat.ne_of_lt (Nat.lt_of_lt_of_le f64.lt (Nat.le_of_eq g72.symm))
  have ne_b36_b72 : b36 ≠ b72 := Nat.ne_of_lt (Nat.lt_of_lt_of_le f66.lt (Nat.le_of_eq g72.symm))
  have ne_b52_b72 : b52 ≠ b72 := Nat.ne_of_lt (Nat.lt_of_lt_of_le Eo61.lt (Nat.le_of_eq g72.symm))
  have g_b72 : n0 ≤ b72 := Nat.le_trans z69 (Nat.le_of_eq g72.symm)
  have sz_b72 : h0.size ≤ b72 := Nat.le_trans kp70.1 (Nat.le_of_eq g72.symm)
  have f73 := f62.ext E72
  have f74 := f63.ext E72
  have f75 := f64.ext E72
  have f76 := f65.ext E72
  have f77 := f66.ext E72
  have f78 := f67.ext E72
  have f79 := Eo61.ext E72
  have f80 := Fs61.ext E72
  have z81 := Nat.le_trans z69 E72.1
  have kp82 := kp70.ext E72
  have F_cause_b72 : Fld Z h72 b72 "java/lang/Throwable" "cause" "Ljava/lang/Throwable;" .null := D72 (Or.inl (hw _ (List.mem_of_getElem? (i := 56) rfl))) (ty := (.object "java/lang/Throwable")) (by decide)
  have F_stackTrace_b72 : Fld Z h72 b72 "java/lang/Throwable" "stackTrace" "[Ljava/lang/StackTraceElement;" .null := D72 (Or.inl (hw _ (List.mem_of_getElem? (i := 59) rfl))) (ty := (.array (.object "java/lang/StackTraceElement"))) (by decide)
  have F_suppressedExceptions_b72 : Fld Z h72 b72 "java/lang/Throwable" "suppressedExceptions" "Ljava/util/List;" .null := D72 (Or.inl (hw _ (List.mem_of_getElem? (i := 62) rfl))) (ty := (.object "java/util/List")) (by decide)
  have F_detailMessage_b72 : Fld Z h72 b72 "java/lang/Throwable" "detailMessage" "Ljava/lang/String;" .null := D72 (Or.inl (hw _ (List.mem_of_getElem? (i := 86) rfl))) (ty := (.object "java/lang/String")) (by decide)
  have F_backtrace_b72 : Fld Z h72 b72 "java/lang/Throwable" "backtrace" "Ljava/lang/Object;" .null := D72 (Or.inl (hw _ (List.mem_of_getElem? (i := 87) rfl))) (ty := (.object "java/lang/Object")) (by decide)
  have F_depth_b72 : Fld Z h72 b72 "java/lang/Throwable" "depth" "I" (.int (0 : Int32)) := D72 (Or.inl (hw _ (List.mem_of_getElem? (i := 88) rfl))) (ty := .int) (by decide)
  have F_status_b72 : Fld Z h72 b72 "com/example/hatchd/hatchd/server/ApiException" "status" "I" (.int (0 : Int32)) := D72 (Or.inr (hw _ (List.mem_of_getElem? (i := 92) rfl))) (ty := .int) (by decide)
  obtain ⟨_, _, ⟨T83, L83, k83, n83⟩, -, X83, ⟨Lc83, hQ83, l83, y83, z83⟩, st83⟩ := X72.specialBack hx (y := (⟨"com/example/hatchd/hatchd/server/ApiException", "<init>", "(ILjava/lang/String;)V"⟩ : MethodName)) rfl hown (mvT hZ (hw _ (List.mem_of_getElem? (i := 40) rfl))) (mvT hZ (hw _ (List.mem_of_getElem? (i := 41) rfl))) (mvT hZ (hw _ (List.mem_of_getElem? (i := 42) rfl))) (by decide) (backOfKL (W := 1) (rmX l Z a0 hw [] b72 (500 : Int32) b12 ua va h72 n0 z81 hl (ThS.keep kp82 (fun _ q => nomatch q) TS) (own_sta_keep SU kp82) (own_sta_keep SS kp82) A72 U72 F_backtrace_b72 F_cause_b72 F_stackTrace_b72 F_suppressedExceptions_b72 g_b72 F_status_b72) hZ (hw _ (List.mem_of_getElem? (i := 42) rfl)) (hw _ (List.mem_of_getElem? (i := 39) rfl)) (by decide) (by decide) hTK hBelow) (g := (mkF m 95 #[.val (.int is_), .val (.int it_), .val (.int ic_), .val (.ref b1), .val (.ref b12), .val (.int (own_min is_ it_)), .val (.int (own_max is_ it_)), .val (.int (own_pass (own_min is_ it_))), .val (.int (own_pass (own_max is_ it_))), .val (.int (own_pass (499 : Int32))), .unset, .unset] [(.ref b12), (.int (500 : Int32)), (.ref b72), (.ref b72)])) rfl (by rw [hml]; rfl) (Steps.refl _) (a := b72) (argsL := [(.int (500 : Int32)), (.ref b12)]) (rest := [(.ref b72)]) (lenOf pd_8 rfl) rfl (by show 2 * 0 + _ ≤ _; exact Nat.le_of_eq rfl) (hb hby at_95) (fun _ _ => ⟨rfl, e72, (by decide : 10 + 1 ≤ _), (by decide : 8290 + 2752 ≤ _)⟩)
  dsimp only [Pt.U, Pt.locs, Pt.cells, Pt.slots] at X83 l83 y83 z83 st83 hQ83
  subst l83 y83 z83
  obtain ⟨rfl, N83q, K83, Eo83, Fs83⟩ := hQ83
  have N83 := Fr.app N71 N83q
  have f84 := f73.keep K83 (ninS ne_b1_b72 nin0)
  have f85 := f74.keep K83
  have f86 := f75.keep K83
  have f87 := f76.keep K83 (ninS ne_b24_b72 nin0)
  have f88 := f77.keep K83
  have f89 := f78.keep K83 (ninS ne_b36_b72 nin0)
  have f90 := f79.keep K83
  have f91 := f80.keep K83 (ninS ne_b52_b72 nin0)
  have f92 := A72.keep K83
  have z93 := Nat.le_trans z81 K83.1
  have kp94 := Keep.trans kp82 K83 (allS (Or.inr sz_b72) all0)
  obtain ⟨cq95, kq95, q95a, q95b, q95c⟩ := isOf hZ rfl Eo83
  obtain ⟨_, _, ⟨T95, L95, k95, n95⟩, -, X95, ⟨Lc95, hQ95, l95, y95, z95⟩, st95⟩ := X83.virtualBack hx (y := (⟨"com/example/hatchd/hatchd/server/ApiException", "isPassing", "()Z"⟩ : MethodName)) (z := (⟨"com/example/hatchd/hatchd/server/ApiException", "isPassing", "()Z"⟩ : MethodName)) hown (mvT hZ (hw _ (List.mem_of_getElem? (i := 93) rfl))) (mvT hZ (hw _ (List.mem_of_getElem? (i := 94) rfl))) (notFace_of_selects (args := #[]) (mvT hZ (hw _ (List.mem_of_getElem? (i := 96) rfl)))) (mvT hZ (hw _ (List.mem_of_getElem? (i := 96) rfl))) (mvT hZ (hw _ (List.mem_of_getElem? (i := 95) rfl))) (by decide) (backOf (W := 0) (rmK l Z a0 hw [] b72 (500 : Int32) T83.heap n0 z93 Fs83) hZ (hw _ (List.mem_of_getElem? (i := 97) rfl)) (hw _ (List.mem_of_getElem? (i := 39) rfl)) (by decide) (by decide)) q95a q95c (g := (mkF m 98 #[.val (.int is_), .val (.int it_), .val (.int ic_), .val (.ref b1), .val (.ref b12), .val (.int (own_min is_ it_)), .val (.int (own_max is_ it_)), .val (.int (own_pass (own_min is_ it_))), .val (.int (own_pass (own_max is_ it_))), .val (.int (own_pass (499 : Int32))), .unset, .unset] [(.ref b72)])) rfl (by rw [hml]; rfl) (Steps.refl _) (argsL := []) (rest := []) (lenOf pd_9 rfl) rfl (by show 2 * 0 + _ ≤ _; exact Nat.le_of_eq rfl) (hb hby at_98) (fun _ _ => ⟨rfl, rfl, (by decide : 11 + 0 ≤ _), (by decide : 11042 + 0 ≤ _)⟩)
  dsimp only [Pt.U, Pt.locs, Pt.cells, Pt.slots] at X95 l95 y95 z95 st95 hQ95
  subst l95 y95 z95
  obtain ⟨rfl, N95q, e95⟩ := hQ95
  have N95 := Fr.app N83 N95q
  have k96 : ∀ tq, Steps p.tables e below (T95.setTop (mkF m 105 #[.val (.int is_), .val (.int it_), .val (.int ic_), .val (.ref b1), .val (.ref b12), .val (.int (own_min is_ it_)), .val (.int (own_max is_ it_)), .val (.int (own_pass (own_min is_ it_))), .val (.int (own_pass (own_max is_ it_))), .val (.int (own_pass (499 : Int32))), .val (.int (own_pass (500 : Int32))), .unset] [(.int (own_pass (own_min is_ it_)))])) tq → Steps p.tables e below (s₁.setTop (entryFrame m #[(.int is_), (.int it_), (.int ic_)] maxLocals)) tq := by
    intro tq kt
    refine pre0 tq ?_
    show Steps p.tables e below (s₁.setTop (mkF m 0 #[.val (.int is_), .val (.int it_), .val (.int ic_), .unset, .unset, .unset, .unset, .unset, .unset, .unset, .unset, .unset] [])) _
    refine XS.iconst X0.here hx rfl (hb hby at_0) ?_
    show Steps p.tables e below (s₁.setTop (mkF m 1 #[.val (.int is_), .val (.int it_), .val (.int ic_), .unset, .unset, .unset, .unset, .unset, .unset, .unset, .unset, .unset] [(.int (1 : Int32))])) _
    refine st1 _ ?_
    show Steps p.tables e below (T1.setTop (mkF m 3 #[.val (.int is_), .val (.int it_), .val (.int ic_), .unset, .unset, .unset, .unset, .unset, .unset, .unset, .unset, .unset] [(.ref b1)])) _
    refine XS.dup X1.here hx rfl (hb hby at_3) rfl rfl ?_
    show Steps p.tables e below (T1.setTop (mkF m 4 #[.val (.int is_), .val (.int it_), .val (.int ic_), .unset, .unset, .unset, .unset, .unset, .unset, .unset, .unset, .unset] [(.ref b1), (.ref b1)])) _
    refine XS.iconst X1.here hx rfl (hb hby at_4) ?_
    show Steps p.tables e below (T1.setTop (mkF m 5 #[.val (.int is_), .val (.int it_), .val (.int ic_), .unset, .unset, .unset, .unset, .unset, .unset, .unset, .unset, .unset] [(.int (0 : Int32)), (.ref b1), (.ref b1)])) _
    refine XS.iloadN X1.here hx rfl (hb hby at_5) rfl ?_
    show Steps p.tables e below (T1.setTop (mkF m 6 #[.val (.int is_), .val (.int it_), .val (.int ic_), .unset, .unset, .unset, .unset, .unset, .unset, .unset, .unset, .unset] [(.int ic_), (.int (0 : Int32)), (.ref b1), (.ref b1)])) _
    refine XS.sipush X1.here hx rfl (hb hby at_6) ?_
    show Steps p.tables e below (T1.setTop (mkF m 9 #[.val (.int is_), .val (.int it_), .val (.int ic_), .unset, .unset, .unset, .unset, .unset, .unset, .unset, .unset, .unset] [(.int (255 : Int32)), (.int ic_), (.int (0 : Int32)), (.ref b1), (.ref b1)])) _
    refine XS.iand X1.here hx rfl (hb hby at_9) rfl ?_
    show Steps p.tables e below (T1.setTop (mkF m 10 #[.val (.int is_), .val (.int it_), .val (.int ic_), .unset, .unset, .unset, .unset, .unset, .unset, .unset, .unset, .unset] [(.int (ic_ &&& (255 : Int32))), (.int (0 : Int32)), (.ref b1), (.ref b1)])) _
    refine XS.i2c X1.here hx rfl (hb hby at_10) rfl ?_
    show Steps p.tables e below (T1.setTop (mkF m 11 #[.val (.int is_), .val (.int it_), .val (.int ic_), .unset, .unset, .unset, .unset, .unset, .unset, .unset, .unset, .unset] [(.int ((ic_ &&& (255 : Int32)).toUInt32.toUInt16.toUInt32.toInt32)), (.int (0 : Int32)), (.ref b1), (.ref b1)])) _
    refine st6 _ ?_
    show Steps p.tables e below (T6.setTop (mkF m 12 #[.val (.int is_), .val (.int it_), .val (.int ic_), .unset, .unset, .unset, .unset, .unset, .unset, .unset, .unset, .unset] [(.ref b1)])) _
    refine XS.astoreN X6.here hx rfl (hb hby at_12) rfl rfl (l' := #[.val (.int is_), .val (.int it_), .val (.int ic_), .val (.ref b1), .unset, .unset, .unset, .unset, .unset, .unset, .unset, .unset]) rfl ?_
    show Steps p.tables e below (T6.setTop (mkF m 13 #[.val (.int is_), .val (.int it_), .val (.int ic_), .val (.ref b1), .unset, .unset, .unset, .unset, .unset, .unset, .unset, .unset] [])) _
    refine st12 _ ?_
    show Steps p.tables e below (T12.setTop (mkF m 16 #[.val (.int is_), .val (.int it_), .val (.int ic_), .val (.ref b1), .unset, .unset, .unset, .unset, .unset, .unset, .unset, .unset] [(.ref b12)])) _
    refine XS.dup X12.here hx rfl (hb hby at_16) rfl rfl ?_
    show Steps p.tables e below (T12.setTop (mkF m 17 #[.val (.int is_), .val (.int it_), .val (.int ic_), .val (.ref b1), .unset, .unset, .unset, .unset, .unset, .unset, .unset, .unset] [(.ref b12), (.ref b12)])) _
    refine XS.aloadN X12.here hx rfl (hb hby at_17) rfl rfl ?_
    show Steps p.tables e below (T12.setTop (mkF m 18 #[.val (.int is_), .val (.int it_), .val (.int ic_), .val (.ref b1), .unset, .unset, .unset, .unset, .unset, .unset, .unset, .unset] [(.ref b1), (.ref b12), (.ref b12)])) _
    refine st17.trans ?_
    show Steps p.tables e below (T17.setTop (mkF m 21 #[.val (.int is_), .val (.int it_), .val (.int ic_), .val (.ref b1), .unset, .unset, .unset, .unset, .unset, .unset, .unset, .unset] [(.ref b12)])) _
    refine XS.astore X17.here hx rfl (hb hby at_21) rfl rfl (l' := #[.val (.int is_), .val (.int it_), .val (.int ic_), .val (.ref b1), .val (.ref b12), .unset, .unset, .unset, .unset, .unset, .unset, .unset]) rfl ?_
    show Steps p.tables e below (T17.setTop (mkF m 23 #[.val (.int is_), .val (.int it_), .val (.int ic_), .val (.ref b1), .val (.ref b12), .unset, .unset, .unset, .unset, .unset, .unset, .unset] [])) _
    refine XS.iloadN X17.here hx rfl (hb hby at_23) rfl ?_
    show Steps p.tables e below (T17.setTop (mkF m 24 #[.val (.int is_), .val (.int it_), .val (.int ic_), .val (.ref b1), .val (.ref b12), .unset, .unset, .unset, .unset, .unset, .unset, .unset] [(.int is_)])) _
    refine XS.iloadN X17.here hx rfl (hb hby at_24) rfl ?_
    show Steps p.tables e below (T17.setTop (mkF m 25 #[.val (.int is_), .val (.int it_), .val (.int ic_), .val (.ref b1), .val (.ref b12), .unset, .unset, .unset, .unset, .unset, .unset, .unset] [(.int it_), (.int is_)])) _
    refine st22 _ ?_
    show Steps p.tables e below (T22.setTop (mkF m 28 #[.val (.int is_), .val (.int it_), .val (.int ic_), .val (.ref b1), .val (.ref b12), .unset, .unset, .unset, .unset, .unset, .unset, .unset] [(.int (own_min is_ it_))])) _
    refine XS.istore X22.here hx rfl (hb hby at_28) rfl (l' := #[.val (.int is_), .val (.int it_), .val (.int ic_), .val (.ref b1), .val (.ref b12), .val (.int (own_min is_ it_)), .unset, .unset, .unset, .unset, .unset, .unset]) rfl ?_
    show Steps p.tables e below (T22.setTop (mkF m 30 #[.val (.int is_), .val (.int it_), .val (.int ic_), .val (.ref b1), .val (.ref b12), .val (.int (own_min is_ it_)), .unset, .unset, .unset, .unset, .unset, .unset] [])) _
    refine XS.iloadN X22.here hx rfl (hb hby at_30) rfl ?_
    show Steps p.tables e below (T22.setTop (mkF m 31 #[.val (.int is_), .val (.int it_), .val (.int ic_), .val (.ref b1), .val (.ref b12), .val (.int (own_min is_ it_)), .unset, .unset, .unset, .unset, .unset, .unset] [(.int is_)])) _
    refine XS.iloadN X22.here hx rfl (hb hby at_31) rfl ?_
    show Steps p.tables e below (T22.setTop (mkF m 32 #[.val (.int is_), .val (.int it_), .val (.int ic_), .val (.ref b1), .val (.ref b12), .val (.int (own_min is_ it_)), .unset, .unset, .unset, .unset, .unset, .unset] [(.int it_), (.int is_)])) _
    refine st23 _ ?_
    show Steps p.tables e below (T23.setTop (mkF m 35 #[.val (.int is_), .val (.int it_), .val (.int ic_), .val (.ref b1), .val (.ref b12), .val (.int (own_min is_ it_)), .unset, .unset, .unset, .unset, .unset, .unset] [(.int (own_max is_ it_))])) _
    refine XS.istore X23.here hx rfl (hb hby at_35) rfl (l' := #[.val (.int is_), .val (.int it_), .val (.int ic_), .val (.ref b1), .val (.ref b12), .val (.int (own_min is_ it_)), .val (.int (own_max is_ it_)), .unset, .unset, .unset, .unset, .unset]) rfl ?_
    show Steps p.tables e below (T23.setTop (mkF m 37 #[.val (.int is_), .val (.int it_), .val (.int ic_), .val (.ref b1), .val (.ref b12), .val (.int (own_min is_ it_)), .val (.int (own_max is_ it_)), .unset, .unset, .unset, .unset, .unset] [])) _
    refine st24 _ ?_
    show Steps p.tables e below (T24.setTop (mkF m 40 #[.val (.int is_), .val (.int it_), .val (.int ic_), .val (.ref b1), .val (.ref b12), .val (.int (own_min is_ it_)), .val (.int (own_max is_ it_)), .unset, .unset, .unset, .unset, .unset] [(.ref b24)])) _
    refine XS.dup X24.here hx rfl (hb hby at_40) rfl rfl ?_
    show Steps p.tables e below (T24.setTop (mkF m 41 #[.val (.int is_), .val (.int it_), .val (.int ic_), .val (.ref b1), .val (.ref b12), .val (.int (own_min is_ it_)), .val (.int (own_max is_ it_)), .unset, .unset, .unset, .unset, .unset] [(.ref b24), (.ref b24)])) _
    refine XS.iload X24.here hx rfl (hb hby at_41) rfl ?_
    show Steps p.tables e below (T24.setTop (mkF m 43 #[.val (.int is_), .val (.int it_), .val (.int ic_), .val (.ref b1), .val (.ref b12), .val (.int (own_min is_ it_)), .val (.int (own_max is_ it_)), .unset, .unset, .unset, .unset, .unset] [(.int (own_min is_ it_)), (.ref b24), (.ref b24)])) _
    refine XS.aload X24.here hx rfl (hb hby at_43) rfl rfl ?_
    show Steps p.tables e below (T24.setTop (mkF m 45 #[.val (.int is_), .val (.int it_), .val (.int ic_), .val (.ref b1), .val (.ref b12), .val (.int (own_min is_ it_)), .val (.int (own_max is_ it_)), .unset, .unset, .unset, .unset, .unset] [(.ref b12), (.int (own_min is_ it_)), (.ref b24), (.ref b24)])) _
    refine st29.trans ?_
    show Steps p.tables e below (T29.setTop (mkF m 48 #[.val (.int is_), .val (.int it_), .val (.int ic_), .val (.ref b1), .val (.ref b12), .val (.int (own_min is_ it_)), .val (.int (own_max is_ it_)), .unset, .unset, .unset, .unset, .unset] [(.ref b24)])) _
    refine st35.trans ?_
    show Steps p.tables e below (T35.setTop (mkF m 51 #[.val (.int is_), .val (.int it_), .val (.int ic_), .val (.ref b1), .val (.ref b12), .val (.int (own_min is_ it_)), .val (.int (own_max is_ it_)), .unset, .unset, .unset, .unset, .unset] [(.int (own_pass (own_min is_ it_)))])) _
    refine XS.istore X35.here hx rfl (hb hby at_51) rfl (l' := #[.val (.int is_), .val (.int it_), .val (.int ic_), .val (.ref b1), .val (.ref b12), .val (.int (own_min is_ it_)), .val (.int (own_max is_ it_)), .val (.int (own_pass (own_min is_ it_))), .unset, .unset, .unset, .unset]) rfl ?_
    show Steps p.tables e below (T35.setTop (mkF m 53 #[.val (.int is_), .val (.int it_), .val (.int ic_), .val (.ref b1), .val (.ref b12), .val (.int (own_min is_ it_)), .val (.int (own_max is_ it_)), .val (.int (own_pass (own_min is_ it_))), .unset, .unset, .unset, .unset] [])) _
    refine st36 _ ?_
    show Steps p.tables e below (T36.setTop (mkF m 56 #[.val (.int is_), .val (.int it_), .val (.int ic_), .val (.ref b1), .val (.ref b12), .val (.int (own_min is_ it_)), .val (.int (own_max is_ it_)), .val (.int (own_pass (own_min is_ it_))), .unset, .unset, .unset, .unset] [(.ref b36)])) _
    refine XS.dup X36.here hx rfl (hb hby at_56) rfl rfl ?_
    show Steps p.tables e below (T36.setTop (mkF m 57 #[.val (.int is_), .val (.int it_), .val (.int ic_), .val (.ref b1), .val (.ref b12), .val (.int (own_min is_ it_)), .val (.int (own_max is_ it_)), .val (.int (own_pass (own_min is_ it_))), .unset, .unset, .unset, .unset] [(.ref b36), (.ref b36)])) _
    refine XS.iload X36.here hx rfl (hb hby at_57) rfl ?_
    show Steps p.tables e below (T36.setTop (mkF m 59 #[.val (.int is_), .val (.int it_), .val (.int ic_), .val (.ref b1), .val (.ref b12), .val (.int (own_min is_ it_)), .val (.int (own_max is_ it_)), .val (.int (own_pass (own_min is_ it_))), .unset, .unset, .unset, .unset] [(.int (own_max is_ it_)), (.ref b36), (.ref b36)])) _
    refine XS.aload X36.here hx rfl (hb hby at_59) rfl rfl ?_
    show Steps p.tables e below (T36.setTop (mkF m 61 #[.val (.int is_), .val (.int it_), .val (.int ic_), .val (.ref b1), .val (.ref b12), .val (.int (own_min is_ it_)), .val (.int (own_max is_ it_)), .val (.int (own_pass (own_min is_ it_))), .unset, .unset, .unset, .unset] [(.ref b12), (.int (own_max is_ it_)), (.ref b36), (.ref b36)])) _
    refine st43.trans ?_
    show Steps p.tables e below (T43.setTop (mkF m 64 #[.val (.int is_), .val (.int it_), .val (.int ic_), .val (.ref b1), .val (.ref b12), .val (.int (own_min is_ it_)), .val (.int (own_max is_ it_)), .val (.int (own_pass (own_min is_ it_))), .unset, .unset, .unset, .unset] [(.ref b36)])) _
    refine st51.trans ?_
    show Steps p.tables e below (T51.setTop (mkF m 67 #[.val (.int is_), .val (.int it_), .val (.int ic_), .val (.ref b1), .val (.ref b12), .val (.int (own_min is_ it_)), .val (.int (own_max is_ it_)), .val (.int (own_pass (own_min is_ it_))), .unset, .unset, .unset, .unset] [(.int (own_pass (own_max is_ it_)))])) _
    refine XS.istore X51.here hx rfl (hb hby at_67) rfl (l' := #[.val (.int is_), .val (.int it_), .val (.int ic_), .val (.ref b1), .val (.ref b12), .val (.int (own_min is_ it_)), .val (.int (own_max is_ it_)), .val (.int (own_pass (own_min is_ it_))), .val (.int (own_pass (own_max is_ it_))), .unset, .unset, .unset]) rfl ?_
    show Steps p.tables e below (T51.setTop (mkF m 69 #[.val (.int is_), .val (.int it_), .val (.int ic_), .val (.ref b1), .val (.ref b12), .val (.int (own_min is_ it_)), .val (.int (own_max is_ it_)), .val (.int (own_pass (own_min is_ it_))), .val (.int (own_pass (own_max is_ it_))), .unset, .unset, .unset] [])) _
    refine st52 _ ?_
    show Steps p.tables e below (T52.setTop (mkF m 72 #[.val (.int is_), .val (.int it_), .val (.int ic_), .val (.ref b1), .val (.ref b12), .val (.int (own_min is_ it_)), .val (.int (own_max is_ it_)), .val (.int (own_pass (own_min is_ it_))), .val (.int (own_pass (own_max is_ it_))), .unset, .unset, .unset] [(.ref b52)])) _
    refine XS.dup X52.here hx rfl (hb hby at_72) rfl rfl ?_
    show Steps p.tables e below (T52.setTop (mkF m 73 #[.val (.int is_), .val (.int it_), .val (.int ic_), .val (.ref b1), .val (.ref b12), .val (.int (own_min is_ it_)), .val (.int (own_max is_ it_)), .val (.int (own_pass (own_min is_ it_))), .val (.int (own_pass (own_max is_ it_))), .unset, .unset, .unset] [(.ref b52), (.ref b52)])) _
    refine XS.sipush X52.here hx rfl (hb hby at_73) ?_
    show Steps p.tables e below (T52.setTop (mkF m 76 #[.val (.int is_), .val (.int it_), .val (.int ic_), .val (.ref b1), .val (.ref b12), .val (.int (own_min is_ it_)), .val (.int (own_max is_ it_)), .val (.int (own_pass (own_min is_ it_))), .val (.int (own_pass (own_max is_ it_))), .unset, .unset, .unset] [(.int (499 : Int32)), (.ref b52), (.ref b52)])) _
    refine XS.aload X52.here hx rfl (hb hby at_76) rfl rfl ?_
    show Steps p.tables e below (T52.setTop (mkF m 78 #[.val (.int is_), .val (.int it_), .val (.int ic_), .val (.ref b1), .val (.ref b12), .val (.int (own_min is_ it_)), .val (.int (own_max is_ it_)), .val (.int (own_pass (own_min is_ it_))), .val (.int (own_pass (own_max is_ it_))), .unset, .unset, .unset] [(.ref b12), (.int (499 : Int32)), (.ref b52), (.ref b52)])) _
    refine st61.trans ?_
    show Steps p.tables e below (T61.setTop (mkF m 81 #[.val (.int is_), .val (.int it_), .val (.int ic_), .val (.ref b1), .val (.ref b12), .val (.int (own_min is_ it_)), .val (.int (own_max is_ it_)), .val (.int (own_pass (own_min is_ it_))), .val (.int (own_pass (own_max is_ it_))), .unset, .unset, .unset] [(.ref b52)])) _
    refine st71.trans ?_
    show Steps p.tables e below (T71.setTop (mkF m 84 #[.val (.int is_), .val (.int it_), .val (.int ic_), .val (.ref b1), .val (.ref b12), .val (.int (own_min is_ it_)), .val (.int (own_max is_ it_)), .val (.int (own_pass (own_min is_ it_))), .val (.int (own_pass (own_max is_ it_))), .unset, .unset, .unset] [(.int (own_pass (499 : Int32)))])) _
    refine XS.istore X71.here hx rfl (hb hby at_84) rfl (l' := #[.val (.int is_), .val (.int it_), .val (.int ic_), .val (.ref b1), .val (.ref b12), .val (.int (own_min is_ it_)), .val (.int (own_max is_ it_)), .val (.int (own_pass (own_min is_ it_))), .val (.int (own_pass (own_max is_ it_))), .val (.int (own_pass (499 : Int32))), .unset, .unset]) rfl ?_
    show Steps p.tables e below (T71.setTop (mkF m 86 #[.val (.int is_), .val (.int it_), .val (.int ic_), .val (.ref b1), .val (.ref b12), .val (.int (own_min is_ it_)), .val (.int (own_max is_ it_)), .val (.int (own_pass (own_min is_ it_))), .val (.int (own_pass (own_max is_ it_))), .val (.int (own_pass (499 : Int32))), .unset, .unset] [])) _
    refine st72 _ ?_
    show Steps p.tables e below (T72.setTop (mkF m 89 #[.val (.int is_), .val (.int it_), .val (.int ic_), .val (.ref b1), .val (.ref b12), .val (.int (own_min is_ it_)), .val (.int (own_max is_ it_)), .val (.int (own_pass (own_min is_ it_))), .val (.int (own_pass (own_max is_ it_))), .val (.int (own_pass (499 : Int32))), .unset, .unset] [(.ref b72)])) _
    refine XS.dup X72.here hx rfl (hb hby at_89) rfl rfl ?_
    show Steps p.tables e below (T72.setTop (mkF m 90 #[.val (.int is_), .val (.int it_), .val (.int ic_), .val (.ref b1), .val (.ref b12), .val (.int (own_min is_ it_)), .val (.int (own_max is_ it_)), .val (.int (own_pass (own_min is_ it_))), .val (.int (own_pass (own_max is_ it_))), .val (.int (own_pass (499 : Int32))), .unset, .unset] [(.ref b72), (.ref b72)])) _
    refine XS.sipush X72.here hx rfl (hb hby at_90) ?_
    show Steps p.tables e below (T72.setTop (mkF m 93 #[.val (.int is_), .val (.int it_), .val (.int ic_), .val (.ref b1), .val (.ref b12), .val (.int (own_min is_ it_)), .val (.int (own_max is_ it_)), .val (.int (own_pass (own_min is_ it_))), .val (.int (own_pass (own_max is_ it_))), .val (.int (own_pass (499 : Int32))), .unset, .unset] [(.int (500 : Int32)), (.ref b72), (.ref b72)])) _
    refine XS.aload X72.here hx rfl (hb hby at_93) rfl rfl ?_
    show Steps p.tables e below (T72.setTop (mkF m 95 #[.val (.int is_), .val (.int it_), .val (.int ic_), .val (.ref b1), .val (.ref b12), .val (.int (own_min is_ it_)), .val (.int (own_max is_ it_)), .val (.int (own_pass (own_min is_ it_))), .val (.int (own_pass (own_max is_ it_))), .val (.int (own_pass (499 : Int32))), .unset, .unset] [(.ref b12), (.int (500 : Int32)), (.ref b72), (.ref b72)])) _
    refine st83.trans ?_
    show Steps p.tables e below (T83.setTop (mkF m 98 #[.val (.int is_), .val (.int it_), .val (.int ic_), .val (.ref b1), .val (.ref b12), .val (.int (own_min is_ it_)), .val (.int (own_max is_ it_)), .val (.int (own_pass (own_min is_ it_))), .val (.int (own_pass (own_max is_ it_))), .val (.int (own_pass (499 : Int32))), .unset, .unset] [(.ref b72)])) _
    refine st95.trans ?_
    show Steps p.tables e below (T95.setTop (mkF m 101 #[.val (.int is_), .val (.int it_), .val (.int ic_), .val (.ref b1), .val (.ref b12), .val (.int (own_min is_ it_)), .val (.int (own_max is_ it_)), .val (.int (own_pass (own_min is_ it_))), .val (.int (own_pass (own_max is_ it_))), .val (.int (own_pass (499 : Int32))), .unset, .unset] [(.int (own_pass (500 : Int32)))])) _
    refine XS.istore X95.here hx rfl (hb hby at_101) rfl (l' := #[.val (.int is_), .val (.int it_), .val (.int ic_), .val (.ref b1), .val (.ref b12), .val (.int (own_min is_ it_)), .val (.int (own_max is_ it_)), .val (.int (own_pass (own_min is_ it_))), .val (.int (own_pass (own_max is_ it_))), .val (.int (own_pass (499 : Int32))), .val (.int (own_pass (500 : Int32))), .unset]) rfl ?_
    show Steps p.tables e below (T95.setTop (mkF m 103 #[.val (.int is_), .val (.int it_), .val (.int ic_), .val (.ref b1), .val (.ref b12), .val (.int (own_min is_ it_)), .val (.int (own_max is_ it_)), .val (.int (own_pass (own_min is_ it_))), .val (.int (own_pass (own_max is_ it_))), .val (.int (own_pass (499 : Int32))), .val (.int (own_pass (500 : Int32))), .unset] [])) _
    refine XS.iload X95.here hx rfl (hb hby at_103) rfl ?_
    exact kt
  obtain ⟨v99, hv99⟩ : ∃ z : Int32, z = (if (own_pass (own_min is_ it_)) = (0 : Int32) then (1 : Int32) else (if (own_pass (own_max is_ it_)) = (0 : Int32) then (0 : Int32) else (1 : Int32))) := ⟨_, rfl⟩
  have k100 : ∀ tq, Steps p.tables e below (T95.setTop (mkF m 118 #[.val (.int is_), .val (.int it_), .val (.int ic_), .val (.ref b1), .val (.ref b12), .val (.int (own_min is_ it_)), .val (.int (own_max is_ it_)), .val (.int (own_pass (own_min is_ it_))), .val (.int (own_pass (own_max is_ it_))), .val (.int (own_pass (499 : Int32))), .val (.int (own_pass (500 : Int32))), .unset] [(.int v99)])) tq → Steps p.tables e below (s₁.setTop (entryFrame m #[(.int is_), (.int it_), (.int ic_)] maxLocals)) tq := by
    intro tq kt
    by_cases hc97 : (own_pass (own_min is_ it_)) = (0 : Int32)
    · rw [if_pos hc97] at hv99
      rw [hv99] at kt
      refine k96 tq ?_
      show Steps p.tables e below (T95.setTop (mkF m 105 #[.val (.int is_), .val (.int it_), .val (.int ic_), .val (.ref b1), .val (.ref b12), .val (.int (own_min is_ it_)), .val (.int (own_max is_ it_)), .val (.int (own_pass (own_min is_ it_))), .val (.int (own_pass (own_max is_ it_))), .val (.int (own_pass (499 : Int32))), .val (.int (own_pass (500 : Int32))), .unset] [(.int (own_pass (own_min is_ it_)))])) _
      refine XS.ifYes X95.here hx rfl (pc0 := 105) (pc' := 113) rfl (hb hby at_105) rfl ((if0 _ _).trans (teq hc97).1) (by decide) (by decide) ?_
      show Steps p.tables e below (T95.setTop (mkF m 113 #[.val (.int is_), .val (.int it_), .val (.int ic_), .val (.ref b1), .val (.ref b12), .val (.int (own_min is_ it_)), .val (.int (own_max is_ it_)), .val (.int (own_pass (own_min is_ it_))), .val (.int (own_pass (own_max is_ it_))), .val (.int (own_pass (499 : Int32))), .val (.int (own_pass (500 : Int32))), .unset] [])) _
      refine XS.iconst X95.here hx rfl (hb hby at_113) ?_
      show Steps p.tables e below (T95.setTop (mkF m 114 #[.val (.int is_), .val (.int it_), .val (.int ic_), .val (.ref b1), .val (.ref b12), .val (.int (own_min is_ it_)), .val (.int (own_max is_ it_)), .val (.int (own_pass (own_min is_ it_))), .val (.int (own_pass (own_max is_ it_))), .val (.int (own_pass (499 : Int32))), .val (.int (own_pass (500 : Int32))), .unset] [(.int (1 : Int32))])) _
      refine XS.goto X95.here hx rfl (pc0 := 114) (pc' := 118) rfl (hb hby at_114) (by decide) (by decide) ?_
      exact kt
    · rw [if_neg hc97] at hv99
      by_cases hc98 : (own_pass (own_max is_ it_)) = (0 : Int32)
      · rw [if_pos hc98] at hv99
        rw [hv99] at kt
        refine k96 tq ?_
        show Steps p.tables e below (T95.setTop (mkF m 105 #[.val (.int is_), .val (.int it_), .val (.int ic_), .val (.ref b1), .val (.ref b12), .val (.int (own_min is_ it_)), .val (.int (own_max is_ it_)), .val (.int (own_pass (own_min is_ it_))), .val (.int (own_pass (own_max is_ it_))), .val (.int (own_pass (499 : Int32))), .val (.int (own_pass (500 : Int32))), .unset] [(.int (own_pass (own_min is_ it_)))])) _
        refine XS.ifNo X95.here hx rfl (hb hby at_105) rfl ((if0 _ _).trans (feq hc97).1) ?_
        show Steps p.tables e below (T95.setTop (mkF m 108 #[.val (.int is_), .val (.int it_), .val (.int ic_), .val (.ref b1), .val (.ref b12), .val (.int (own_min is_ it_)), .val (.int (own_max is_ it_)), .val (.int (own_pass (own_min is_ it_))), .val (.int (own_pass (own_max is_ it_))), .val (.int (own_pass (499 : Int32))), .val (.int (own_pass (500 : Int32))), .unset] [])) _
        refine XS.iload X95.here hx rfl (hb hby at_108) rfl ?_
        show Steps p.tables e below (T95.setTop (mkF m 110 #[.val (.int is_), .val (.int it_), .val (.int ic_), .val (.ref b1), .val (.ref b12), .val (.int (own_min is_ it_)), .val (.int (own_max is_ it_)), .val (.int (own_pass (own_min is_ it_))), .val (.int (own_pass (own_max is_ it_))), .val (.int (own_pass (499 : Int32))), .val (.int (own_pass (500 : Int32))), .unset] [(.int (own_pass (own_max is_ it_)))])) _
        refine XS.ifYes X95.here hx rfl (pc0 := 110) (pc' := 117) rfl (hb hby at_110) rfl ((if0 _ _).trans (teq hc98).1) (by decide) (by decide) ?_
        show Steps p.tables e below (T95.setTop (mkF m 117 #[.val (.int is_), .val (.int it_), .val (.int ic_), .val (.ref b1), .val (.ref b12), .val (.int (own_min is_ it_)), .val (.int (own_max is_ it_)), .val (.int (own_pass (own_min is_ it_))), .val (.int (own_pass (own_max is_ it_))), .val (.int (own_pass (499 : Int32))), .val (.int (own_pass (500 : Int32))), .unset] [])) _
        refine XS.iconst X95.here hx rfl (hb hby at_117) ?_
        exact kt
      · rw [if_neg hc98] at hv99
        rw [hv99] at kt
        refine k96 tq ?_
        show Steps p.tables e below (T95.setTop (mkF m 105 #[.val (.int is_), .val (.int it_), .val (.int ic_), .val (.ref b1), .val (.ref b12), .val (.int (own_min is_ it_)), .val (.int (own_max is_ it_)), .val (.int (own_pass (own_min is_ it_))), .val (.int (own_pass (own_max is_ it_))), .val (.int (own_pass (499 : Int32))), .val (.int (own_pass (500 : Int32))), .unset] [(.int (own_pass (own_min is_ it_)))])) _
        refine XS.ifNo X95.here hx rfl (hb hby at_105) rfl ((if0 _ _).trans (feq hc97).1) ?_
        show Steps p.tables e below (T95.setTop (mkF m 108 #[.val (.int is_), .val (.int it_), .val (.int ic_), .val (.ref b1), .val (.ref b12), .val (.int (own_min is_ it_)), .val (.int (own_max is_ it_)), .val (.int (own_pass (own_min is_ it_))), .val (.int (own_pass (own_max is_ it_))), .val (.int (own_pass (499 : Int32))), .val (.int (own_pass (500 : Int32))), .unset] [])) _
        refine XS.iload X95.here hx rfl (hb hby at_108) rfl ?_
        show Steps p.tables e below (T95.setTop (mkF m 110 #[.val (.int is_), .val (.int it_), .val (.int ic_), .val (.ref b1), .val (.ref b12), .val (.int (own_min is_ it_)), .val (.int (own_max is_ it_)), .val (.int (own_pass (own_min is_ it_))), .val (.int (own_pass (own_max is_ it_))), .val (.int (own_pass (499 : Int32))), .val (.int (own_pass (500 : Int32))), .unset] [(.int (own_pass (own_max is_ it_)))])) _
        refine XS.ifNo X95.here hx rfl (hb hby at_110) rfl ((if0 _ _).trans (feq hc98).1) ?_
        show Steps p.tables e below (T95.setTop (mkF m 113 #[.val (.int is_), .val (.int it_), .val (.int ic_), .val (.ref b1), .val (.ref b12), .val (.int (own_min is_ it_)), .val (.int (own_max is_ it_)), .val (.int (own_pass (own_min is_ it_))), .val (.int (own_pass (own_max is_ it_))), .val (.int (own_pass (499 : Int32))), .val (.int (own_pass (500 : Int32))), .unset] [])) _
        refine XS.iconst X95.here hx rfl (hb hby at_113) ?_
        show Steps p.tables e below (T95.setTop (mkF m 114 #[.val (.int is_), .val (.int it_), .val (.int ic_), .val (.ref b1), .val (.ref b12), .val (.int (own_min is_ it_)), .val (.int (own_max is_ it_)), .val (.int (own_pass (own_min is_ it_))), .val (.int (own_pass (own_max is_ it_))), .val (.int (own_pass (499 : Int32))), .val (.int (own_pass (500 : Int32))), .unset] [(.int (1 : Int32))])) _
        refine XS.goto X95.here hx rfl (pc0 := 114) (pc' := 118) rfl (hb hby at_114) (by decide) (by decide) ?_
        exact kt
  obtain ⟨fs, hr, hrun, hended, hW, hsame⟩ := X95.leave (v := some (.int (1 : Int32))) (fun h => by rw [Bd.returns] at h; cases h)
  refine ⟨_, _, k100 _ ?_, hrun, hended, _, _, rfl, ?_, ⟨_, rfl⟩, hW, hsame.mono (by decide) (by decide)⟩
  · show Steps p.tables e below (T95.setTop (mkF m 118 #[.val (.int is_), .val (.int it_), .val (.int ic_), .val (.ref b1), .val (.ref b12), .val (.int (own_min is_ it_)), .val (.int (own_max is_ it_)), .val (.int (own_pass (own_min is_ it_))), .val (.int (own_pass (own_max is_ it_))), .val (.int (own_pass (499 : Int32))), .val (.int (own_pass (500 : Int32))), .unset] [(.int v99)])) _
    refine XS.istore X95.here hx rfl (hb hby at_118) rfl (l' := #[.val (.int is_), .val (.int it_), .val (.int ic_), .val (.ref b1), .val (.ref b12), .val (.int (own_min is_ it_)), .val (.int (own_max is_ it_)), .val (.int (own_pass (own_min is_ it_))), .val (.int (own_pass (own_max is_ it_))), .val (.int (own_pass (499 : Int32))), .val (.int (own_pass (500 : Int32))), .val (.int v99)]) rfl ?_
    show Steps p.tables e below (T95.setTop (mkF m 120 #[.val (.int is_), .val (.int it_), .val (.int ic_), .val (.ref b1), .val (.ref b12), .val (.int (own_min is_ it_)), .val (.int (own_max is_ it_)), .val (.int (own_pass (own_min is_ it_))), .val (.int (own_pass (own_max is_ it_))), .val (.int (own_pass (499 : Int32))), .val (.int (own_pass (500 : Int32))), .val (.int v99)] [])) _
    refine XS.iload X95.here hx rfl (hb hby at_120) rfl ?_
    show Steps p.tables e below (T95.setTop (mkF m 122 #[.val (.int is_), .val (.int it_), .val (.int ic_), .val (.ref b1), .val (.ref b12), .val (.int (own_min is_ it_)), .val (.int (own_max is_ it_)), .val (.int (own_pass (own_min is_ it_))), .val (.int (own_pass (own_max is_ it_))), .val (.int (own_pass (499 : Int32))), .val (.int (own_pass (500 : Int32))), .val (.int v99)] [(.int v99)])) _
    refine XS.ifNo X95.here hx rfl (hb hby at_122) rfl ((if0 _ _).trans (feq (show ¬ v99 = (0 : Int32) from by rw [hv99]; exact own_mono is_ it_)).1) ?_
    show Steps p.tables e below (T95.setTop (mkF m 125 #[.val (.int is_), .val (.int it_), .val (.int ic_), .val (.ref b1), .val (.ref b12), .val (.int (own_min is_ it_)), .val (.int (own_max is_ it_)), .val (.int (own_pass (own_min is_ it_))), .val (.int (own_pass (own_max is_ it_))), .val (.int (own_pass (499 : Int32))), .val (.int (own_pass (500 : Int32))), .val (.int v99)] [])) _
    refine XS.iload X95.here hx rfl (hb hby at_125) rfl ?_
    show Steps p.tables e below (T95.setTop (mkF m 127 #[.val (.int is_), .val (.int it_), .val (.int ic_), .val (.ref b1), .val (.ref b12), .val (.int (own_min is_ it_)), .val (.int (own_max is_ it_)), .val (.int (own_pass (own_min is_ it_))), .val (.int (own_pass (own_max is_ it_))), .val (.int (own_pass (499 : Int32))), .val (.int (own_pass (500 : Int32))), .val (.int v99)] [(.int (own_pass (499 : Int32)))])) _
    refine XS.ifNo X95.here hx rfl (hb hby at_127) rfl ((if0 _ _).trans (teq (rfl : own_pass (499 : Int32) = (0 : Int32))).2) ?_
    show Steps p.tables e below (T95.setTop (mkF m 130 #[.val (.int is_), .val (.int it_), .val (.int ic_), .val (.ref b1), .val (.ref b12), .val (.int (own_min is_ it_)), .val (.int (own_max is_ it_)), .val (.int (own_pass (own_min is_ it_))), .val (.int (own_pass (own_max is_ it_))), .val (.int (own_pass (499 : Int32))), .val (.int (own_pass (500 : Int32))), .val (.int v99)] [])) _
    refine XS.iload X95.here hx rfl (hb hby at_130) rfl ?_
    show Steps p.tables e below (T95.setTop (mkF m 132 #[.val (.int is_), .val (.int it_), .val (.int ic_), .val (.ref b1), .val (.ref b12), .val (.int (own_min is_ it_)), .val (.int (own_max is_ it_)), .val (.int (own_pass (own_min is_ it_))), .val (.int (own_pass (own_max is_ it_))), .val (.int (own_pass (499 : Int32))), .val (.int (own_pass (500 : Int32))), .val (.int v99)] [(.int (own_pass (500 : Int32)))])) _
    refine XS.ifNo X95.here hx rfl (hb hby at_132) rfl ((if0 _ _).trans (feq (by decide : ¬ own_pass (500 : Int32) = (0 : Int32))).1) ?_
    show Steps p.tables e below (T95.setTop (mkF m 135 #[.val (.int is_), .val (.int it_), .val (.int ic_), .val (.ref b1), .val (.ref b12), .val (.int (own_min is_ it_)), .val (.int (own_max is_ it_)), .val (.int (own_pass (own_min is_ it_))), .val (.int (own_pass (own_max is_ it_))), .val (.int (own_pass (499 : Int32))), .val (.int (own_pass (500 : Int32))), .val (.int v99)] [])) _
    refine XS.iconst X95.here hx rfl (hb hby at_135) ?_
    show Steps p.tables e below (T95.setTop (mkF m 136 #[.val (.int is_), .val (.int it_), .val (.int ic_), .val (.ref b1), .val (.ref b12), .val (.int (own_min is_ it_)), .val (.int (own_max is_ it_)), .val (.int (own_pass (own_min is_ it_))), .val (.int (own_pass (own_max is_ it_))), .val (.int (own_pass (499 : Int32))), .val (.int (own_pass (500 : Int32))), .val (.int v99)] [(.int (1 : Int32))])) _
    refine XS.goto X95.here hx rfl (pc0 := 136) (pc' := 140) rfl (hb hby at_136) (by decide) (by decide) ?_
    show Steps p.tables e below (T95.setTop (mkF m 140 #[.val (.int is_), .val (.int it_), .val (.int ic_), .val (.ref b1), .val (.ref b12), .val (.int (own_min is_ it_)), .val (.int (own_max is_ it_)), .val (.int (own_pass (own_min is_ it_))), .val (.int (own_pass (own_max is_ it_))), .val (.int (own_pass (499 : Int32))), .val (.int (own_pass (500 : Int32))), .val (.int v99)] [(.int (1 : Int32))])) _
    exact retN X95 hx (t := .boolean) Bd.returns (by simp) (hb hby at_140) hr
  · show own_Q0 Z is_ it_ ic_ w h0 n0 _ T95.heap _
    rw [e95]
    exact ⟨rfl, N95⟩
set_option maxRecDepth 65536 in
set_option maxHeartbeats 40000000 in
theorem comes_1 {Post : Tables → Env → Array Value → State → Outcome → State → Prop} (hpost : ∀ tb e args s v u, (limb_1_1.after args s (.returned v) u = true ∧ limb_1_2.after args s (.returned v) u = true ∧ True) → FrameEnd s (.returned v) u (Jvm.fieldLocs frame_1_writes args s ++ Jvm.arrayLocs frame_1_arrays args s ++ Jvm.staticLocs frame_1_statics s) 32 22208 → Post tb e args s (.returned v) u) :
    ArmFor flags0 classFile x code maxLocals ret World_1 tables_1 room_1 Calls_1 rest_1 Pre_1 Post := by
  intro l hfl _ _ p e ha hc hk s m args below hf hA hF happ hP
  obtain ⟨hcalls, hrest, hpre⟩ := hP
  obtain ⟨-, -, -, hnamed, -, -, -, hat⟩ := (Spec.applies_iff hf).mp happ
  obtain ⟨hg, hn⟩ := and_e (Cond.before_iff.mp (show (Jvm.Cond.and given_1 narrow_1).before args s = true from hpre))
  obtain ⟨hcount, hg0⟩ := and_e hg
  obtain ⟨hv0, hg1⟩ := and_e hg0
  obtain ⟨hv1, hg2⟩ := and_e hg1
  have hv2 := hg2
  obtain ⟨w0, w1, w2, rfl⟩ : ∃ w0 w1 w2 : Value, args = #[w0, w1, w2] := by
    have hs : args.size = 3 := by simpa [Cond.value, given_1] using hcount
    obtain ⟨L⟩ := args
    match L, hs with
    | [w0, w1, w2], _ => exact ⟨w0, w1, w2, rfl⟩
  have hw := fun d (hd : d ∈ tables_1) => atoms_spec (ws := Jvm.Cond.code x code maxLocals ret :: tables_1) hat d (List.mem_cons_of_mem _ hd)
  have hfit : Fit s := fun {y c} hc i hi => by
    obtain ⟨ha, rfl⟩ := Array.getElem?_eq_some_iff.mp hc
    have q := List.all_eq_true.mp ((Array.all_eq_true_iff_forall_mem.mp hF) _ (Array.getElem_mem ha)) i (List.mem_range.mpr hi)
    simpa [Array.getElem?_eq_getElem hi] using q
  obtain ⟨i0, ei0⟩ := is_v hv0
  obtain rfl : w0 = (.int i0) := Option.some.inj ei0
  obtain ⟨i1, ei1⟩ := is_v hv1
  obtain rfl : w1 = (.int i1) := Option.some.inj ei1
  obtain ⟨i2, ei2⟩ := is_v hv2
  obtain rfl : w2 = (.int i2) := Option.some.inj ei2
  obtain ⟨hsets, hown0⟩ := atoms_of _ (rest_1_c_eq ▸ (show rest_1_c.before _ s = true from hrest))
  obtain ⟨w, ew⟩ := is_v (Cond.before_iff.mp (hsets _ (List.mem_of_getElem? (i := 1) rfl)))
  have S0 : Sta s s.heap "java/lang/String" "COMPACT_STRINGS" "Z" (.int w) := Sta.start ew (Or.inl (hsets _ (List.mem_of_getElem? (i := 0) rfl)))
  have hw0 : ¬ w = (0 : Int32) := fun q => by
    have q2 := not_v (Cond.before_iff.mp (hsets _ (List.mem_of_getElem? (i := 2) rfl)))
    rw [eq_i ew (Term.int_eval (0)) (by rw [q])] at q2
    cases q2
  have hstk : l.stackTraces = true := by unfold Launch.stackTraces; rw [hfl]; decide
  have hTK := MethodsKnown_of_tablesKnown hcalls.2.1
  have hBelow := FramesKnown_of_framesKnown hcalls.1 hf
  obtain ⟨ua, eua⟩ := arr_v (Cond.before_iff.mp (hsets _ (List.mem_of_getElem? (i := 17) rfl)))
  have SU : Sta s s.heap "java/lang/Throwable" "UNASSIGNED_STACK" "[Ljava/lang/StackTraceElement;" (.ref ua) := Sta.start eua (Or.inl (hsets _ (List.mem_of_getElem? (i := 15) rfl)))
  obtain ⟨va, eva⟩ := exa_v (Cond.before_iff.mp (hsets _ (List.mem_of_getElem? (i := 22) rfl)))
  have SS : Sta s s.heap "java/lang/Throwable" "SUPPRESSED_SENTINEL" "Ljava/util/List;" (.ref va) := Sta.start eva (Or.inl (hsets _ (List.mem_of_getElem? (i := 20) rfl)))
  obtain ⟨n, o, h1, h2, h3, _, L, rfl, ⟨rfl, N⟩, hq⟩ := rm0 l s _ hw tables_1 i0 i1 i2 w ua va s.heap s.heap.size (Nat.le_refl _) S0 hw0 hstk ThS.start SU SS p e ha hc hk s m _ below hf ((Spec.applies_iff_loose hf).mp happ).1 ⟨rfl, State.Warmed39.refl s, rfl⟩ ⟨hTK, hBelow⟩
  refine ⟨n, _, h1, h2, h3, hpost _ _ _ _ _ _ ⟨Cond.after_iff.mpr rfl, Cond.after_iff.mpr (eq_i res_at (Term.int_eval (1)) rfl), trivial⟩ ⟨hq.1, hq.2.1, (hq.2.2.sift fun y hy => Or.inr (N y hy)).mono (by decide) (by decide)⟩⟩
theorem main_1_1 : Claimed_1_1 := comes_1 fun _ _ _ _ _ _ h hF => ⟨h.1, hF⟩
theorem main_1_2 : Claimed_1_2 := comes_1 fun _ _ _ _ _ _ h hF => ⟨h.2.1, hF⟩
end Jvm.Pilot.@@N@@
namespace Jvm.Pilot.@@N@@
open Jvm Jvm.ClassFile Sem Op Lib Jvm.Free Jvm.Stand Jvm.Pilot.@@N@@.Jvm.D
/-! MADE BY PROGRAM (witnessworld.py) out of the Statement's table words and the real class files: 36 classes; the members and pool entries that the words name. The judged class is class 1, her method 1. -/
namespace start1
open Jvm.ClassFile
def u (s : String) : CpInfo := .utf8 (stringToUtf16 s)
/-- a pool by its gaps: so many unusable entries, then the entry; so many at the end -/
def gap : Nat → List CpInfo → List CpInfo
  | 0, r => r
  | n + 1, r => .unusable :: gap n r
def poolList (es : List (Nat × CpInfo)) (last : Nat) : List CpInfo := es.foldr (fun e r => gap e.1 (e.2 :: r)) (gap last [])
def pool (es : List (Nat × CpInfo)) (last : Nat) : Array CpInfo := ⟨poolList es last⟩
def fileOf (pool : Array CpInfo) (this : Nat) (attrs : Array Attribute := #[]) (ms : Array MethodInfo := #[]) (fl : Nat := 33) (sup : Nat := 0) (ifs : Array Nat := #[]) (fds : Array FieldInfo := #[]) : ClassFile where
  minorVersion := 0
  majorVersion := 65
  constantPool := pool
  accessFlags := fl
  thisClass := this
  superClass := sup
  interfaces := ifs
  fields := fds
  methods := ms
  attributes := attrs
def plain (name : String) (sup : Option ClassId) : Class where
  name := name
  kind := .ordinary
  loader := none
  accessFlags := 33
  super := sup
  interfaces := #[]
  cf := none
  fields := #[]
  methods := #[]
  instanceTypes := #[]
  staticTypes := #[]
  resolved := #[]
  callSites := []
  init := .initialized
  statics := none
  mirror := none

def pool0 : Array CpInfo := pool [(5, u "<init>"), (0, u "()V"), (1, .class_ 10), (1, u "java/lang/Object")] 113

def k0c0 : Code := { maxStack := 0, maxLocals := 1, code := object_method_1_code, exceptionTable := #[], attributes := #[] }
def k0m0 : Method := { name := "<init>", desc := "()V", sig := { parameters := [], returnType := none }, accessFlags := 1, code := some k0c0 }
/-- java/lang/Object -/
def k0 : Class := { plain "java/lang/Object" none with
  accessFlags := 33
  interfaces := #[]
  cf := some (fileOf pool0 8 #[] #[{ accessFlags := 1, nameIndex := 5, descriptorIndex := 6, attributes := #[] }] 33 0 #[] #[])
  fields := #[]
  methods := #[k0m0]
  instanceTypes := #[]
  staticTypes := #[]
  resolved := Array.replicate 124 none
  statics := none }

def pool1 : Array CpInfo := pool [(2, .class_ 4), (1, u "java/lang/Object"), (0, u "<init>"), (0, u "()V"), (0, .class_ 8), (0, u "java/lang/String"), (0, .methodref 7 10), (0, .nameAndType 5 11), (0, u "([C)V"), (0, .methodref 13 14), (0, .class_ 15), (0, .nameAndType 16 17), (0, u "java/lang/Math"), (0, u "min"), (0, u "(II)I"), (0, .methodref 13 19), (0, .nameAndType 20 17), (0, u "max"), (0, .class_ 22), (0, u "com/example/hatchd/hatchd/server/ApiException"), (0, .methodref 21 24), (0, .nameAndType 5 25), (0, u "(ILjava/lang/String;)V"), (0, .methodref 21 27), (0, .nameAndType 28 29), (0, u "isPassing"), (0, u "()Z"), (0, .class_ 31), (0, u "com/example/hatchd/hatchd/server/ApiExceptionIsPassingPinLaw"), (2, u "law"), (0, u "(III)Z")] 5

def k1m0 : Method := { name := "<init>", desc := "()V", sig := { parameters := [], returnType := none }, accessFlags := 1, code := none }
def k1c1 : Code := { maxStack := 5, maxLocals := 12, code := code, exceptionTable := #[], attributes := #[] }
def k1m1 : Method := { name := "law", desc := "(III)Z", sig := { parameters := [.int, .int, .int], returnType := some .boolean }, accessFlags := 9, code := some k1c1 }
/-- com/example/hatchd/hatchd/server/ApiExceptionIsPassingPinLaw -/
def k1 : Class := { plain "com/example/hatchd/hatchd/server/ApiExceptionIsPassingPinLaw" (some 0) with
  accessFlags := 49
  interfaces := #[]
  cf := some (fileOf pool1 30 #[] #[{ accessFlags := 1, nameIndex := 5, descriptorIndex := 6, attributes := #[] }, { accessFlags := 9, nameIndex := 34, descriptorIndex := 35, attributes := #[] }] 49 2 #[] #[])
  fields := #[]
  methods := #[k1m0, k1m1]
  instanceTypes := #[]
  staticTypes := #[]
  resolved := Array.replicate 41 none
  statics := none }

def pool2 : Array CpInfo := pool [(1, .class_ 2), (0, u "java/io/Serializable"), (0, .class_ 4), (0, u "java/lang/Object")] 2

/-- java/io/Serializable -/
def k2 : Class := { plain "java/io/Serializable" (some 0) with
  accessFlags := 1537
  interfaces := #[]
  cf := some (fileOf pool2 1 #[] #[] 1537 3 #[] #[])
  fields := #[]
  methods := #[]
  instanceTypes := #[]
  staticTypes := #[]
  resolved := Array.replicate 7 none
  statics := none }

def pool3 : Array CpInfo := pool [(1, .class_ 2), (0, u "java/lang/Comparable"), (0, .class_ 4), (0, u "java/lang/Object")] 7

/-- java/lang/Comparable -/
def k3 : Class := { plain "java/lang/Comparable" (some 0) with
  accessFlags := 1537
  interfaces := #[]
  cf := some (fileOf pool3 1 #[] #[] 1537 3 #[] #[])
  fields := #[]
  methods := #[]
  instanceTypes := #[]
  staticTypes := #[]
  resolved := Array.replicate 12 none
  statics := none }

def pool4 : Array CpInfo := pool [(2, .class_ 4), (1, u "java/lang/CharSequence"), (42, .class_ 48), (0, u "java/lang/CharSequence$1CodePointIterator"), (10, .class_ 60), (0, u "java/lang/CharSequence$1CharIterator"), (5, .class_ 67), (0, u "java/lang/Object")] 63

/-- java/lang/CharSequence -/
def k4 : Class := { plain "java/lang/CharSequence" (some 0) with
  accessFlags := 1537
  interfaces := #[]
  cf := some (fileOf pool4 2 #[.nestMembers #[47, 59]] #[] 1537 66 #[] #[])
  fields := #[]
  methods := #[]
  instanceTypes := #[]
  staticTypes := #[]
  resolved := Array.replicate 131 none
  statics := none }

def pool5 : Array CpInfo := pool [(1, .class_ 2), (0, u "java/lang/constant/Constable"), (0, .class_ 4), (0, u "java/lang/Object")] 6

/-- java/lang/constant/Constable -/
def k5 : Class := { plain "java/lang/constant/Constable" (some 0) with
  accessFlags := 1537
  interfaces := #[]
  cf := some (fileOf pool5 1 #[] #[] 1537 3 #[] #[])
  fields := #[]
  methods := #[]
  instanceTypes := #[]
  staticTypes := #[]
  resolved := Array.replicate 11 none
  statics := none }

def pool6 : Array CpInfo := pool [(1, .class_ 2), (0, u "java/lang/constant/ConstantDesc"), (0, .class_ 4), (0, u "java/lang/Object")] 32

/-- java/lang/constant/ConstantDesc -/
def k6 : Class := { plain "java/lang/constant/ConstantDesc" (some 0) with
  accessFlags := 1537
  interfaces := #[]
  cf := some (fileOf pool6 1 #[] #[] 1537 3 #[] #[])
  fields := #[]
  methods := #[]
  instanceTypes := #[]
  staticTypes := #[]
  resolved := Array.replicate 37 none
  statics := none }

def pool7 : Array CpInfo := pool [(1, .methodref 2 3), (0, .class_ 4), (0, .nameAndType 5 6), (0, u "java/lang/Object"), (0, u "<init>"), (0, u "()V"), (2, .fieldref 10 11), (0, .class_ 12), (0, .nameAndType 13 14), (0, u "java/lang/String"), (0, u "value"), (0, u "[B"), (0, .fieldref 10 16), (0, .nameAndType 17 18), (0, u "coder"), (0, u "B"), (2, u "hash"), (0, u "I"), (2, u "hashIsZero"), (0, u "Z"), (0, .methodref 10 28), (0, .nameAndType 5 29), (0, u "([CIILjava/lang/Void;)V"), (8, .fieldref 10 39), (0, .nameAndType 40 26), (0, u "COMPACT_STRINGS"), (1, .class_ 44), (1, u "java/lang/StringUTF16"), (0, u "compress"), (1, .methodref 42 48), (0, .nameAndType 49 50), (0, u "coderFromArrayLen"), (0, u "([BI)B"), (126, .methodref 42 178), (0, .nameAndType 45 179), (0, u "([CII)[B"), (395, .class_ 576), (0, u "java/lang/CharSequence"), (22, u "CASE_INSENSITIVE_ORDER"), (0, u "Ljava/util/Comparator;"), (409, u "([C)V"), (90, u "serialPersistentFields"), (0, u "[Ljava/io/ObjectStreamField;"), (0, .class_ 1104), (0, u "java/lang/String$CaseInsensitiveComparator"), (1, .class_ 1107), (0, u "java/io/Serializable"), (0, .class_ 1109), (0, u "java/lang/Comparable"), (0, .class_ 1111), (0, u "java/lang/constant/Constable"), (0, .class_ 1113), (0, u "java/lang/constant/ConstantDesc"), (2, u "serialVersionUID"), (0, u "J"), (3, u "REPL"), (0, u "C"), (2, u "LATIN1"), (1, u "UTF16")] 323

def k7m0 : Method := { name := "<init>", desc := "()V", sig := { parameters := [], returnType := none }, accessFlags := 1, code := none }
def k7c1 : Code := { maxStack := 5, maxLocals := 2, code := jdk_42_method_3_code, exceptionTable := #[], attributes := #[] }
def k7m1 : Method := { name := "<init>", desc := "([C)V", sig := { parameters := [(.array .char)], returnType := none }, accessFlags := 1, code := some k7c1 }
def k7c2 : Code := { maxStack := 4, maxLocals := 6, code := jdk_42_method_149_code, exceptionTable := #[], attributes := #[] }
def k7m2 : Method := { name := "<init>", desc := "([CIILjava/lang/Void;)V", sig := { parameters := [(.array .char), .int, .int, (.object "java/lang/Void")], returnType := none }, accessFlags := 2, code := some k7c2 }
/-- java/lang/String -/
def k7 : Class := { plain "java/lang/String" (some 0) with
  accessFlags := 49
  interfaces := #[2, 3, 4, 5, 6]
  cf := some (fileOf pool7 10 #[.nestMembers #[1103]] #[{ accessFlags := 1, nameIndex := 5, descriptorIndex := 6, attributes := #[] }, { accessFlags := 1, nameIndex := 5, descriptorIndex := 1010, attributes := #[] }, { accessFlags := 2, nameIndex := 5, descriptorIndex := 29, attributes := #[] }] 49 2 #[1106, 1108, 575, 1110, 1112] #[{ accessFlags := 18, nameIndex := 13, descriptorIndex := 14, attributes := #[] }, { accessFlags := 18, nameIndex := 17, descriptorIndex := 18, attributes := #[] }, { accessFlags := 2, nameIndex := 21, descriptorIndex := 22, attributes := #[] }, { accessFlags := 2, nameIndex := 25, descriptorIndex := 26, attributes := #[] }, { accessFlags := 26, nameIndex := 1116, descriptorIndex := 1117, attributes := #[] }, { accessFlags := 24, nameIndex := 40, descriptorIndex := 26, attributes := #[] }, { accessFlags := 26, nameIndex := 1101, descriptorIndex := 1102, attributes := #[] }, { accessFlags := 26, nameIndex := 1121, descriptorIndex := 1122, attributes := #[] }, { accessFlags := 25, nameIndex := 599, descriptorIndex := 600, attributes := #[] }, { accessFlags := 24, nameIndex := 1125, descriptorIndex := 18, attributes := #[] }, { accessFlags := 24, nameIndex := 1127, descriptorIndex := 18, attributes := #[] }])
  fields := #[{ name := "value", type := (.array .byte), accessFlags := 18, slot := 0, constantValue := 0 }, { name := "coder", type := .byte, accessFlags := 18, slot := 1, constantValue := 0 }, { name := "hash", type := .int, accessFlags := 2, slot := 2, constantValue := 0 }, { name := "hashIsZero", type := .boolean, accessFlags := 2, slot := 3, constantValue := 0 }, { name := "serialVersionUID", type := .long, accessFlags := 26, slot := 0, constantValue := 0 }, { name := "COMPACT_STRINGS", type := .boolean, accessFlags := 24, slot := 1, constantValue := 0 }, { name := "serialPersistentFields", type := (.array (.object "java/io/ObjectStreamField")), accessFlags := 26, slot := 2, constantValue := 0 }, { name := "REPL", type := .char, accessFlags := 26, slot := 3, constantValue := 0 }, { name := "CASE_INSENSITIVE_ORDER", type := (.object "java/util/Comparator"), accessFlags := 25, slot := 4, constantValue := 0 }, { name := "LATIN1", type := .byte, accessFlags := 24, slot := 5, constantValue := 0 }, { name := "UTF16", type := .byte, accessFlags := 24, slot := 6, constantValue := 0 }]
  methods := #[k7m0, k7m1, k7m2]
  instanceTypes := #[(.array .byte), .byte, .int, .boolean]
  staticTypes := #[.long, .boolean, (.array (.object "java/io/ObjectStreamField")), .char, (.object "java/util/Comparator"), .byte, .byte]
  resolved := Array.replicate 1451 none
  statics := some 0 }

def pool8 : Array CpInfo := pool [(6, .class_ 8), (1, u "java/lang/Object"), (0, u "<init>"), (0, u "()V"), (1, .class_ 14), (1, u "java/lang/StringUTF16"), (31, u "$assertionsDisabled"), (0, u "Z"), (13, u "HI_BYTE_SHIFT"), (0, u "I"), (2, u "LO_BYTE_SHIFT"), (49, .methodref 12 116), (0, .nameAndType 117 118), (0, u "compress"), (0, u "([CI[BII)I"), (3, u "([CII)[B"), (138, u "coderFromArrayLen"), (0, u "([BI)B"), (106, .class_ 371), (1, u "java/lang/StringUTF16$LinesSpliterator"), (58, u "MAX_LENGTH"), (196, .class_ 628), (0, u "java/lang/StringUTF16$CodePointsSpliterator"), (0, .class_ 630), (0, u "java/lang/StringUTF16$CharsSpliterator")] 4

def k8m0 : Method := { name := "<init>", desc := "()V", sig := { parameters := [], returnType := none }, accessFlags := 0, code := none }
def k8c1 : Code := { maxStack := 2, maxLocals := 2, code := jdk_52_method_15_code, exceptionTable := #[], attributes := #[] }
def k8m1 : Method := { name := "coderFromArrayLen", desc := "([BI)B", sig := { parameters := [(.array .byte), .int], returnType := some .byte }, accessFlags := 8, code := some k8c1 }
def k8c2 : Code := { maxStack := 5, maxLocals := 6, code := jdk_52_method_16_code, exceptionTable := #[], attributes := #[] }
def k8m2 : Method := { name := "compress", desc := "([CII)[B", sig := { parameters := [(.array .char), .int, .int], returnType := some (.array .byte) }, accessFlags := 9, code := some k8c2 }
def k8c3 : Code := { maxStack := 3, maxLocals := 7, code := jdk_52_method_21_code, exceptionTable := #[], attributes := #[] }
def k8m3 : Method := { name := "compress", desc := "([CI[BII)I", sig := { parameters := [(.array .char), .int, (.array .byte), .int, .int], returnType := some .int }, accessFlags := 9, code := some k8c3 }
/-- java/lang/StringUTF16 -/
def k8 : Class := { plain "java/lang/StringUTF16" (some 0) with
  accessFlags := 48
  interfaces := #[]
  cf := some (fileOf pool8 12 #[.nestMembers #[627, 629, 369]] #[{ accessFlags := 0, nameIndex := 9, descriptorIndex := 10, attributes := #[] }, { accessFlags := 8, nameIndex := 261, descriptorIndex := 262, attributes := #[] }, { accessFlags := 9, nameIndex := 117, descriptorIndex := 122, attributes := #[] }, { accessFlags := 9, nameIndex := 117, descriptorIndex := 118, attributes := #[] }] 48 6 #[] #[{ accessFlags := 26, nameIndex := 61, descriptorIndex := 62, attributes := #[] }, { accessFlags := 26, nameIndex := 65, descriptorIndex := 62, attributes := #[] }, { accessFlags := 24, nameIndex := 430, descriptorIndex := 62, attributes := #[] }, { accessFlags := 4120, nameIndex := 46, descriptorIndex := 47, attributes := #[] }])
  fields := #[{ name := "HI_BYTE_SHIFT", type := .int, accessFlags := 26, slot := 0, constantValue := 0 }, { name := "LO_BYTE_SHIFT", type := .int, accessFlags := 26, slot := 1, constantValue := 0 }, { name := "MAX_LENGTH", type := .int, accessFlags := 24, slot := 2, constantValue := 0 }, { name := "$assertionsDisabled", type := .boolean, accessFlags := 4120, slot := 3, constantValue := 0 }]
  methods := #[k8m0, k8m1, k8m2, k8m3]
  instanceTypes := #[]
  staticTypes := #[.int, .int, .int, .boolean]
  resolved := Array.replicate 635 none
  statics := none }

def pool9 : Array CpInfo := pool [(1, .class_ 2), (0, u "java/lang/Math"), (1, .class_ 6), (1, u "java/lang/Object"), (0, u "<init>"), (0, u "()V"), (89, .class_ 100), (1, u "java/lang/Math$RandomNumberGeneratorHolder"), (71, u "negativeZeroFloatBits"), (0, u "J"), (2, u "negativeZeroDoubleBits"), (21, u "max"), (2, u "min"), (43, u "$assertionsDisabled"), (0, u "Z"), (88, u "(II)I"), (2, u "twoToTheDoubleScaleDown"), (0, u "D"), (4, u "twoToTheDoubleScaleUp"), (9, u "E"), (3, u "PI"), (2, u "TAU"), (2, u "DEGREES_TO_RADIANS"), (0, u "RADIANS_TO_DEGREES")] 94

def k9m0 : Method := { name := "<init>", desc := "()V", sig := { parameters := [], returnType := none }, accessFlags := 2, code := none }
def k9c1 : Code := { maxStack := 2, maxLocals := 2, code := jdk_29_method_65_code, exceptionTable := #[], attributes := #[] }
def k9m1 : Method := { name := "max", desc := "(II)I", sig := { parameters := [.int, .int], returnType := some .int }, accessFlags := 9, code := some k9c1 }
def k9c2 : Code := { maxStack := 2, maxLocals := 2, code := jdk_29_method_69_code, exceptionTable := #[], attributes := #[] }
def k9m2 : Method := { name := "min", desc := "(II)I", sig := { parameters := [.int, .int], returnType := some .int }, accessFlags := 9, code := some k9c2 }
/-- java/lang/Math -/
def k9 : Class := { plain "java/lang/Math" (some 0) with
  accessFlags := 49
  interfaces := #[]
  cf := some (fileOf pool9 1 #[.nestMembers #[98]] #[{ accessFlags := 2, nameIndex := 7, descriptorIndex := 8, attributes := #[] }, { accessFlags := 9, nameIndex := 198, descriptorIndex := 335, attributes := #[] }, { accessFlags := 9, nameIndex := 201, descriptorIndex := 335, attributes := #[] }] 49 4 #[] #[{ accessFlags := 25, nameIndex := 354, descriptorIndex := 339, attributes := #[] }, { accessFlags := 25, nameIndex := 358, descriptorIndex := 339, attributes := #[] }, { accessFlags := 25, nameIndex := 361, descriptorIndex := 339, attributes := #[] }, { accessFlags := 26, nameIndex := 364, descriptorIndex := 339, attributes := #[] }, { accessFlags := 26, nameIndex := 365, descriptorIndex := 339, attributes := #[] }, { accessFlags := 26, nameIndex := 172, descriptorIndex := 173, attributes := #[] }, { accessFlags := 26, nameIndex := 176, descriptorIndex := 173, attributes := #[] }, { accessFlags := 8, nameIndex := 344, descriptorIndex := 339, attributes := #[] }, { accessFlags := 8, nameIndex := 338, descriptorIndex := 339, attributes := #[] }, { accessFlags := 4120, nameIndex := 245, descriptorIndex := 246, attributes := #[] }])
  fields := #[{ name := "E", type := .double, accessFlags := 25, slot := 0, constantValue := 0 }, { name := "PI", type := .double, accessFlags := 25, slot := 1, constantValue := 0 }, { name := "TAU", type := .double, accessFlags := 25, slot := 2, constantValue := 0 }, { name := "DEGREES_TO_RADIANS", type := .double, accessFlags := 26, slot := 3, constantValue := 0 }, { name := "RADIANS_TO_DEGREES", type := .double, accessFlags := 26, slot := 4, constantValue := 0 }, { name := "negativeZeroFloatBits", type := .long, accessFlags := 26, slot := 5, constantValue := 0 }, { name := "negativeZeroDoubleBits", type := .long, accessFlags := 26, slot := 6, constantValue := 0 }, { name := "twoToTheDoubleScaleUp", type := .double, accessFlags := 8, slot := 7, constantValue := 0 }, { name := "twoToTheDoubleScaleDown", type := .double, accessFlags := 8, slot := 8, constantValue := 0 }, { name := "$assertionsDisabled", type := .boolean, accessFlags := 4120, slot := 9, constantValue := 0 }]
  methods := #[k9m0, k9m1, k9m2]
  instanceTypes := #[]
  staticTypes := #[.double, .double, .double, .double, .double, .long, .long, .double, .double, .boolean]
  resolved := Array.replicate 460 none
  statics := none }

def pool10 : Array CpInfo := pool [(1, .methodref 2 3), (0, .class_ 4), (0, .nameAndType 5 6), (0, u "java/lang/Object"), (0, u "<init>"), (0, u "()V"), (0, .fieldref 8 9), (0, .class_ 10), (0, .nameAndType 11 12), (0, u "java/lang/Throwable"), (0, u "cause"), (0, u "Ljava/lang/Throwable;"), (0, .fieldref 8 14), (0, .nameAndType 15 16), (0, u "UNASSIGNED_STACK"), (0, u "[Ljava/lang/StackTraceElement;"), (0, .fieldref 8 18), (0, .nameAndType 19 16), (0, u "stackTrace"), (0, .fieldref 8 21), (0, .nameAndType 22 23), (0, u "SUPPRESSED_SENTINEL"), (0, u "Ljava/util/List;"), (0, .fieldref 8 25), (0, .nameAndType 26 23), (0, u "suppressedExceptions"), (0, .methodref 8 28), (0, .nameAndType 29 30), (0, u "fillInStackTrace"), (0, u "()Ljava/lang/Throwable;"), (0, .fieldref 8 32), (0, .nameAndType 33 34), (0, u "detailMessage"), (0, u "Ljava/lang/String;"), (58, .class_ 94), (0, u "java/lang/Throwable$WrappedPrintStream"), (6, .class_ 103), (1, u "java/lang/Throwable$PrintStreamOrWriter"), (61, u "$assertionsDisabled"), (0, u "Z"), (26, .class_ 194), (0, u "java/lang/Throwable$WrappedPrintWriter"), (3, .fieldref 8 199), (0, .nameAndType 200 201), (0, u "backtrace"), (0, u "Ljava/lang/Object;"), (0, .methodref 8 203), (0, .nameAndType 29 204), (0, u "(I)Ljava/lang/Throwable;"), (6, u "depth"), (0, u "I"), (10, u "(Ljava/lang/String;)V"), (45, .class_ 271), (1, u "java/lang/Throwable$SentinelHolder"), (32, u "EMPTY_THROWABLE_ARRAY"), (0, u "[Ljava/lang/Throwable;"), (12, .class_ 319), (0, u "java/io/Serializable"), (0, u "serialVersionUID"), (0, u "J"), (5, u "NULL_CAUSE_MESSAGE"), (0, u "SELF_SUPPRESSION_MESSAGE"), (0, u "CAUSE_CAPTION"), (0, u "SUPPRESSED_CAPTION")] 73

def k10c0 : Code := { maxStack := 2, maxLocals := 1, code := jdk_78_method_1_code, exceptionTable := #[], attributes := #[] }
def k10m0 : Method := { name := "<init>", desc := "()V", sig := { parameters := [], returnType := none }, accessFlags := 1, code := some k10c0 }
def k10c1 : Code := { maxStack := 2, maxLocals := 2, code := jdk_78_method_2_code, exceptionTable := #[], attributes := #[] }
def k10m1 : Method := { name := "<init>", desc := "(Ljava/lang/String;)V", sig := { parameters := [(.object "java/lang/String")], returnType := none }, accessFlags := 1, code := some k10c1 }
def k10c2 : Code := { maxStack := 2, maxLocals := 1, code := ⟨#[0x2a, 0xb4, 0x00, 0x11, 0xc7, 0x00, 0x0a, 0x2a, 0xb4, 0x00, 0xc6, 0xc6, 0x00, 0x10, 0x2a, 0x03, 0xb6, 0x00, 0xca, 0x57, 0x2a, 0xb2, 0x00, 0x0d, 0xb5, 0x00, 0x11, 0x2a, 0xb0]⟩, exceptionTable := #[], attributes := #[] }
def k10m2 : Method := { name := "fillInStackTrace", desc := "()Ljava/lang/Throwable;", sig := { parameters := [], returnType := some (.object "java/lang/Throwable") }, accessFlags := 33, code := some k10c2 }
def k10m3 : Method := { name := "fillInStackTrace", desc := "(I)Ljava/lang/Throwable;", sig := { parameters := [.int], returnType := some (.object "java/lang/Throwable") }, accessFlags := 258, code := none }
/-- java/lang/Throwable -/
def k10 : Class := { plain "java/lang/Throwable" (some 0) with
  accessFlags := 33
  interfaces := #[2]
  cf := some (fileOf pool10 8 #[.nestMembers #[193, 93, 101, 269]] #[{ accessFlags := 1, nameIndex := 5, descriptorIndex := 6, attributes := #[] }, { accessFlags := 1, nameIndex := 5, descriptorIndex := 223, attributes := #[] }, { accessFlags := 33, nameIndex := 29, descriptorIndex := 30, attributes := #[] }, { accessFlags := 258, nameIndex := 29, descriptorIndex := 204, attributes := #[] }] 33 2 #[318] #[{ accessFlags := 26, nameIndex := 320, descriptorIndex := 321, attributes := #[] }, { accessFlags := 130, nameIndex := 200, descriptorIndex := 201, attributes := #[] }, { accessFlags := 2, nameIndex := 33, descriptorIndex := 34, attributes := #[] }, { accessFlags := 26, nameIndex := 15, descriptorIndex := 16, attributes := #[] }, { accessFlags := 2, nameIndex := 11, descriptorIndex := 12, attributes := #[] }, { accessFlags := 2, nameIndex := 19, descriptorIndex := 16, attributes := #[] }, { accessFlags := 130, nameIndex := 211, descriptorIndex := 212, attributes := #[] }, { accessFlags := 26, nameIndex := 22, descriptorIndex := 23, attributes := #[] }, { accessFlags := 2, nameIndex := 26, descriptorIndex := 23, attributes := #[] }, { accessFlags := 26, nameIndex := 327, descriptorIndex := 34, attributes := #[] }, { accessFlags := 26, nameIndex := 328, descriptorIndex := 34, attributes := #[] }, { accessFlags := 26, nameIndex := 329, descriptorIndex := 34, attributes := #[] }, { accessFlags := 26, nameIndex := 330, descriptorIndex := 34, attributes := #[] }, { accessFlags := 26, nameIndex := 304, descriptorIndex := 305, attributes := #[] }, { accessFlags := 4120, nameIndex := 165, descriptorIndex := 166, attributes := #[] }])
  fields := #[{ name := "serialVersionUID", type := .long, accessFlags := 26, slot := 0, constantValue := 0 }, { name := "backtrace", type := (.object "java/lang/Object"), accessFlags := 130, slot := 0, constantValue := 0 }, { name := "detailMessage", type := (.object "java/lang/String"), accessFlags := 2, slot := 1, constantValue := 0 }, { name := "UNASSIGNED_STACK", type := (.array (.object "java/lang/StackTraceElement")), accessFlags := 26, slot := 1, constantValue := 0 }, { name := "cause", type := (.object "java/lang/Throwable"), accessFlags := 2, slot := 2, constantValue := 0 }, { name := "stackTrace", type := (.array (.object "java/lang/StackTraceElement")), accessFlags := 2, slot := 3, constantValue := 0 }, { name := "depth", type := .int, accessFlags := 130, slot := 4, constantValue := 0 }, { name := "SUPPRESSED_SENTINEL", type := (.object "java/util/List"), accessFlags := 26, slot := 2, constantValue := 0 }, { name := "suppressedExceptions", type := (.object "java/util/List"), accessFlags := 2, slot := 5, constantValue := 0 }, { name := "NULL_CAUSE_MESSAGE", type := (.object "java/lang/String"), accessFlags := 26, slot := 3, constantValue := 0 }, { name := "SELF_SUPPRESSION_MESSAGE", type := (.object "java/lang/String"), accessFlags := 26, slot := 4, constantValue := 0 }, { name := "CAUSE_CAPTION", type := (.object "java/lang/String"), accessFlags := 26, slot := 5, constantValue := 0 }, { name := "SUPPRESSED_CAPTION", type := (.object "java/lang/String"), accessFlags := 26, slot := 6, constantValue := 0 }, { name := "EMPTY_THROWABLE_ARRAY", type := (.array (.object "java/lang/Throwable")), accessFlags := 26, slot := 7, constantValue := 0 }, { name := "$assertionsDisabled", type := .boolean, accessFlags := 4120, slot := 8, constantValue := 0 }]
  methods := #[k10m0, k10m1, k10m2, k10m3]
  instanceTypes := #[(.object "java/lang/Object"), (.object "java/lang/String"), (.object "java/lang/Throwable"), (.array (.object "java/lang/StackTraceElement")), .int, (.object "java/util/List")]
  staticTypes := #[.long, (.array (.object "java/lang/StackTraceElement")), (.object "java/util/List"), (.object "java/lang/String"), (.object "java/lang/String"), (.object "java/lang/String"), (.object "java/lang/String"), (.array (.object "java/lang/Throwable")), .boolean]
  resolved := Array.replicate 404 none
  statics := some 1 }

def pool11 : Array CpInfo := pool [(2, .class_ 4), (1, u "java/lang/Throwable"), (0, u "<init>"), (0, u "()V"), (0, .methodref 2 8), (0, .nameAndType 5 9), (0, u "(Ljava/lang/String;)V"), (9, .class_ 20), (0, u "java/lang/Exception"), (0, u "serialVersionUID"), (0, u "J")] 17

def k11m0 : Method := { name := "<init>", desc := "()V", sig := { parameters := [], returnType := none }, accessFlags := 1, code := none }
def k11c1 : Code := { maxStack := 2, maxLocals := 2, code := jdk_59_method_2_code, exceptionTable := #[], attributes := #[] }
def k11m1 : Method := { name := "<init>", desc := "(Ljava/lang/String;)V", sig := { parameters := [(.object "java/lang/String")], returnType := none }, accessFlags := 1, code := some k11c1 }
/-- java/lang/Exception -/
def k11 : Class := { plain "java/lang/Exception" (some 10) with
  accessFlags := 33
  interfaces := #[]
  cf := some (fileOf pool11 19 #[] #[{ accessFlags := 1, nameIndex := 5, descriptorIndex := 6, attributes := #[] }, { accessFlags := 1, nameIndex := 5, descriptorIndex := 9, attributes := #[] }] 33 2 #[] #[{ accessFlags := 24, nameIndex := 21, descriptorIndex := 22, attributes := #[] }])
  fields := #[{ name := "serialVersionUID", type := .long, accessFlags := 24, slot := 0, constantValue := 0 }]
  methods := #[k11m0, k11m1]
  instanceTypes := #[(.object "java/lang/Object"), (.object "java/lang/String"), (.object "java/lang/Throwable"), (.array (.object "java/lang/StackTraceElement")), .int, (.object "java/util/List")]
  staticTypes := #[.long]
  resolved := Array.replicate 40 none
  statics := none }

def pool12 : Array CpInfo := pool [(1, .methodref 2 3), (0, .class_ 4), (0, .nameAndType 5 6), (0, u "java/lang/Exception"), (0, u "<init>"), (0, u "(Ljava/lang/String;)V"), (0, .fieldref 8 9), (0, .class_ 10), (0, .nameAndType 11 12), (0, u "com/example/hatchd/hatchd/server/ApiException"), (0, u "status"), (0, u "I"), (0, u "serialVersionUID"), (0, u "J"), (3, u "(ILjava/lang/String;)V"), (2, u "isPassing"), (0, u "()Z")] 4

def k12c0 : Code := { maxStack := 2, maxLocals := 3, code := prog_27_method_1_code, exceptionTable := #[], attributes := #[] }
def k12m0 : Method := { name := "<init>", desc := "(ILjava/lang/String;)V", sig := { parameters := [.int, (.object "java/lang/String")], returnType := none }, accessFlags := 0, code := some k12c0 }
def k12c1 : Code := { maxStack := 2, maxLocals := 1, code := prog_27_method_2_code, exceptionTable := #[], attributes := #[] }
def k12m1 : Method := { name := "isPassing", desc := "()Z", sig := { parameters := [], returnType := some .boolean }, accessFlags := 0, code := some k12c1 }
/-- com/example/hatchd/hatchd/server/ApiException -/
def k12 : Class := { plain "com/example/hatchd/hatchd/server/ApiException" (some 11) with
  accessFlags := 32
  interfaces := #[]
  cf := some (fileOf pool12 8 #[] #[{ accessFlags := 0, nameIndex := 5, descriptorIndex := 18, attributes := #[] }, { accessFlags := 0, nameIndex := 21, descriptorIndex := 22, attributes := #[] }] 32 2 #[] #[{ accessFlags := 26, nameIndex := 13, descriptorIndex := 14, attributes := #[] }, { accessFlags := 18, nameIndex := 11, descriptorIndex := 12, attributes := #[] }])
  fields := #[{ name := "serialVersionUID", type := .long, accessFlags := 26, slot := 0, constantValue := 0 }, { name := "status", type := .int, accessFlags := 18, slot := 6, constantValue := 0 }]
  methods := #[k12m0, k12m1]
  instanceTypes := #[(.object "java/lang/Object"), (.object "java/lang/String"), (.object "java/lang/Throwable"), (.array (.object "java/lang/StackTraceElement")), .int, (.object "java/util/List"), .int]
  staticTypes := #[.long]
  resolved := Array.replicate 27 none
  statics := none }

def pool13 : Array CpInfo := pool [(4, .class_ 6), (1, u "java/lang/Object"), (0, u "<init>"), (0, u "()V"), (5, .class_ 16), (1, u "java/lang/StringLatin1"), (104, u "$assertionsDisabled"), (0, u "Z"), (98, .class_ 223), (1, u "java/lang/StringLatin1$LinesSpliterator"), (166, .class_ 391), (0, u "java/lang/StringLatin1$CharsSpliterator")] 3

def k13m0 : Method := { name := "<init>", desc := "()V", sig := { parameters := [], returnType := none }, accessFlags := 0, code := none }
/-- java/lang/StringLatin1 -/
def k13 : Class := { plain "java/lang/StringLatin1" (some 0) with
  accessFlags := 48
  interfaces := #[]
  cf := some (fileOf pool13 14 #[.nestMembers #[390, 221]] #[{ accessFlags := 0, nameIndex := 7, descriptorIndex := 8, attributes := #[] }] 48 4 #[] #[{ accessFlags := 4120, nameIndex := 121, descriptorIndex := 122, attributes := #[] }])
  fields := #[{ name := "$assertionsDisabled", type := .boolean, accessFlags := 4120, slot := 0, constantValue := 0 }]
  methods := #[k13m0]
  instanceTypes := #[]
  staticTypes := #[.boolean]
  resolved := Array.replicate 395 none
  statics := none }

def pool14 : Array CpInfo := pool [(2, .class_ 4), (1, u "java/lang/Object"), (0, u "<init>"), (0, u "()V"), (17, .class_ 26), (1, u "jdk/internal/util/Preconditions"), (28, .class_ 56), (0, u "jdk/internal/util/Preconditions$4"), (57, .class_ 115), (0, u "jdk/internal/util/Preconditions$1"), (7, u "SIOOBE_FORMATTER"), (0, u "Ljava/util/function/BiFunction;"), (0, .class_ 126), (0, u "jdk/internal/util/Preconditions$2"), (3, u "AIOOBE_FORMATTER"), (0, .class_ 132), (0, u "jdk/internal/util/Preconditions$3"), (3, u "IOOBE_FORMATTER")] 57

def k14m0 : Method := { name := "<init>", desc := "()V", sig := { parameters := [], returnType := none }, accessFlags := 1, code := none }
/-- jdk/internal/util/Preconditions -/
def k14 : Class := { plain "jdk/internal/util/Preconditions" (some 0) with
  accessFlags := 33
  interfaces := #[]
  cf := some (fileOf pool14 24 #[.nestMembers #[55, 131, 125, 114]] #[{ accessFlags := 1, nameIndex := 5, descriptorIndex := 6, attributes := #[] }] 33 2 #[] #[{ accessFlags := 25, nameIndex := 123, descriptorIndex := 124, attributes := #[] }, { accessFlags := 25, nameIndex := 130, descriptorIndex := 124, attributes := #[] }, { accessFlags := 25, nameIndex := 136, descriptorIndex := 124, attributes := #[] }])
  fields := #[{ name := "SIOOBE_FORMATTER", type := (.object "java/util/function/BiFunction"), accessFlags := 25, slot := 0, constantValue := 0 }, { name := "AIOOBE_FORMATTER", type := (.object "java/util/function/BiFunction"), accessFlags := 25, slot := 1, constantValue := 0 }, { name := "IOOBE_FORMATTER", type := (.object "java/util/function/BiFunction"), accessFlags := 25, slot := 2, constantValue := 0 }]
  methods := #[k14m0]
  instanceTypes := #[]
  staticTypes := #[(.object "java/util/function/BiFunction"), (.object "java/util/function/BiFunction"), (.object "java/util/function/BiFunction")]
  resolved := Array.replicate 194 none
  statics := some 2 }

def pool15 : Array CpInfo := pool [(9, u "<init>"), (6, .class_ 18), (1, u "java/lang/Object"), (0, u "()V"), (1, .class_ 23), (1, u "jdk/internal/util/ArraysSupport"), (0, u "LOG2_ARRAY_LONG_INDEX_SCALE"), (0, u "I"), (2, u "U"), (0, u "Ljdk/internal/misc/Unsafe;"), (8, u "BIG_ENDIAN"), (0, u "Z"), (8, u "LOG2_BYTE_BIT_SIZE"), (4, u "LOG2_ARRAY_INT_INDEX_SCALE"), (54, u "JLA"), (0, u "Ljdk/internal/access/JavaLangAccess;"), (11, u "LOG2_ARRAY_BOOLEAN_INDEX_SCALE"), (9, u "LOG2_ARRAY_BYTE_INDEX_SCALE"), (5, u "LOG2_ARRAY_CHAR_INDEX_SCALE"), (5, u "LOG2_ARRAY_SHORT_INDEX_SCALE"), (18, u "LOG2_ARRAY_FLOAT_INDEX_SCALE"), (24, u "LOG2_ARRAY_DOUBLE_INDEX_SCALE"), (89, u "T_BOOLEAN"), (2, u "T_CHAR"), (1, u "T_FLOAT"), (1, u "T_DOUBLE"), (1, u "T_BYTE"), (1, u "T_SHORT"), (1, u "T_INT"), (1, u "T_LONG"), (1, u "SOFT_MAX_ARRAY_LENGTH")] 83

def k15m0 : Method := { name := "<init>", desc := "()V", sig := { parameters := [], returnType := none }, accessFlags := 2, code := none }
/-- jdk/internal/util/ArraysSupport -/
def k15 : Class := { plain "jdk/internal/util/ArraysSupport" (some 0) with
  accessFlags := 33
  interfaces := #[]
  cf := some (fileOf pool15 21 #[] #[{ accessFlags := 2, nameIndex := 9, descriptorIndex := 19, attributes := #[] }] 33 16 #[] #[{ accessFlags := 24, nameIndex := 28, descriptorIndex := 29, attributes := #[] }, { accessFlags := 26, nameIndex := 38, descriptorIndex := 39, attributes := #[] }, { accessFlags := 25, nameIndex := 121, descriptorIndex := 25, attributes := #[] }, { accessFlags := 25, nameIndex := 131, descriptorIndex := 25, attributes := #[] }, { accessFlags := 25, nameIndex := 137, descriptorIndex := 25, attributes := #[] }, { accessFlags := 25, nameIndex := 143, descriptorIndex := 25, attributes := #[] }, { accessFlags := 25, nameIndex := 53, descriptorIndex := 25, attributes := #[] }, { accessFlags := 25, nameIndex := 24, descriptorIndex := 25, attributes := #[] }, { accessFlags := 25, nameIndex := 162, descriptorIndex := 25, attributes := #[] }, { accessFlags := 25, nameIndex := 187, descriptorIndex := 25, attributes := #[] }, { accessFlags := 26, nameIndex := 48, descriptorIndex := 25, attributes := #[] }, { accessFlags := 25, nameIndex := 277, descriptorIndex := 25, attributes := #[] }, { accessFlags := 25, nameIndex := 280, descriptorIndex := 25, attributes := #[] }, { accessFlags := 25, nameIndex := 282, descriptorIndex := 25, attributes := #[] }, { accessFlags := 25, nameIndex := 284, descriptorIndex := 25, attributes := #[] }, { accessFlags := 25, nameIndex := 286, descriptorIndex := 25, attributes := #[] }, { accessFlags := 25, nameIndex := 288, descriptorIndex := 25, attributes := #[] }, { accessFlags := 25, nameIndex := 290, descriptorIndex := 25, attributes := #[] }, { accessFlags := 25, nameIndex := 292, descriptorIndex := 25, attributes := #[] }, { accessFlags := 26, nameIndex := 108, descriptorIndex := 109, attributes := #[] }, { accessFlags := 25, nameIndex := 294, descriptorIndex := 25, attributes := #[] }])
  fields := #[{ name := "U", type := (.object "jdk/internal/misc/Unsafe"), accessFlags := 24, slot := 0, constantValue := 0 }, { name := "BIG_ENDIAN", type := .boolean, accessFlags := 26, slot := 1, constantValue := 0 }, { name := "LOG2_ARRAY_BOOLEAN_INDEX_SCALE", type := .int, accessFlags := 25, slot := 2, constantValue := 0 }, { name := "LOG2_ARRAY_BYTE_INDEX_SCALE", type := .int, accessFlags := 25, slot := 3, constantValue := 0 }, { name := "LOG2_ARRAY_CHAR_INDEX_SCALE", type := .int, accessFlags := 25, slot := 4, constantValue := 0 }, { name := "LOG2_ARRAY_SHORT_INDEX_SCALE", type := .int, accessFlags := 25, slot := 5, constantValue := 0 }, { name := "LOG2_ARRAY_INT_INDEX_SCALE", type := .int, accessFlags := 25, slot := 6, constantValue := 0 }, { name := "LOG2_ARRAY_LONG_INDEX_SCALE", type := .int, accessFlags := 25, slot := 7, constantValue := 0 }, { name := "LOG2_ARRAY_FLOAT_INDEX_SCALE", type := .int, accessFlags := 25, slot := 8, constantValue := 0 }, { name := "LOG2_ARRAY_DOUBLE_INDEX_SCALE", type := .int, accessFlags := 25, slot := 9, constantValue := 0 }, { name := "LOG2_BYTE_BIT_SIZE", type := .int, accessFlags := 26, slot := 10, constantValue := 0 }, { name := "T_BOOLEAN", type := .int, accessFlags := 25, slot := 11, constantValue := 0 }, { name := "T_CHAR", type := .int, accessFlags := 25, slot := 12, constantValue := 0 }, { name := "T_FLOAT", type := .int, accessFlags := 25, slot := 13, constantValue := 0 }, { name := "T_DOUBLE", type := .int, accessFlags := 25, slot := 14, constantValue := 0 }, { name := "T_BYTE", type := .int, accessFlags := 25, slot := 15, constantValue := 0 }, { name := "T_SHORT", type := .int, accessFlags := 25, slot := 16, constantValue := 0 }, { name := "T_INT", type := .int, accessFlags := 25, slot := 17, constantValue := 0 }, { name := "T_LONG", type := .int, accessFlags := 25, slot := 18, constantValue := 0 }, { name := "JLA", type := (.object "jdk/internal/access/JavaLangAccess"), accessFlags := 26, slot := 19, constantValue := 0 }, { name := "SOFT_MAX_ARRAY_LENGTH", type := .int, accessFlags := 25, slot := 20, constantValue := 0 }]
  methods := #[k15m0]
  instanceTypes := #[]
  staticTypes := #[(.object "jdk/internal/misc/Unsafe"), .boolean, .int, .int, .int, .int, .int, .int, .int, .int, .int, .int, .int, .int, .int, .int, .int, .int, .int, (.object "jdk/internal/access/JavaLangAccess"), .int]
  resolved := Array.replicate 378 none
  statics := none }

def pool16 : Array CpInfo := pool [(2, .class_ 4), (1, u "java/lang/Object"), (0, u "<init>"), (0, u "()V"), (12, .class_ 20), (0, u "java/util/Collections"), (63, u "r"), (0, u "Ljava/util/Random;"), (80, .class_ 167), (0, u "java/util/Collections$UnmodifiableCollection"), (6, .class_ 175), (0, u "java/util/Collections$UnmodifiableSequencedCollection"), (6, .class_ 183), (0, u "java/util/Collections$UnmodifiableSet"), (6, .class_ 191), (0, u "java/util/Collections$UnmodifiableSequencedSet"), (6, .class_ 199), (0, u "java/util/Collections$UnmodifiableSortedSet"), (6, .class_ 207), (0, u "java/util/Collections$UnmodifiableNavigableSet"), (4, .class_ 213), (0, u "java/util/Collections$UnmodifiableList"), (1, .class_ 216), (0, u "java/util/Collections$UnmodifiableRandomAccessList"), (6, .class_ 224), (0, u "java/util/Collections$UnmodifiableMap"), (6, .class_ 232), (0, u "java/util/Collections$UnmodifiableSequencedMap"), (4, .class_ 238), (0, u "java/util/Collections$UnmodifiableSortedMap"), (6, .class_ 246), (0, u "java/util/Collections$UnmodifiableNavigableMap"), (3, .class_ 251), (0, u "java/util/Collections$SynchronizedCollection"), (4, .class_ 257), (0, u "java/util/Collections$SynchronizedSet"), (4, .class_ 263), (0, u "java/util/Collections$SynchronizedSortedSet"), (1, .class_ 266), (0, u "java/util/Collections$SynchronizedNavigableSet"), (1, .class_ 269), (0, u "java/util/Collections$SynchronizedRandomAccessList"), (1, .class_ 272), (0, u "java/util/Collections$SynchronizedList"), (5, .class_ 279), (0, u "java/util/Collections$SynchronizedMap"), (1, .class_ 282), (0, u "java/util/Collections$SynchronizedSortedMap"), (1, .class_ 285), (0, u "java/util/Collections$SynchronizedNavigableMap"), (1, .class_ 288), (0, u "java/util/Collections$CheckedCollection"), (11, .class_ 301), (0, u "java/util/Collections$CheckedQueue"), (3, .class_ 306), (0, u "java/util/Collections$CheckedSet"), (3, .class_ 311), (0, u "java/util/Collections$CheckedSortedSet"), (3, .class_ 316), (0, u "java/util/Collections$CheckedNavigableSet"), (3, .class_ 321), (0, u "java/util/Collections$CheckedRandomAccessList"), (3, .class_ 326), (0, u "java/util/Collections$CheckedList"), (1, .class_ 329), (0, u "java/util/Collections$CheckedMap"), (3, .class_ 334), (0, u "java/util/Collections$CheckedSortedMap"), (3, .class_ 339), (0, u "java/util/Collections$CheckedNavigableMap"), (4, .class_ 346), (1, u "java/util/Collections$EmptyIterator"), (3, .class_ 352), (1, u "java/util/Collections$EmptyListIterator"), (2, .class_ 357), (1, u "java/util/Collections$EmptyEnumeration"), (4, u "EMPTY_SET"), (0, u "Ljava/util/Set;"), (6, u "EMPTY_LIST"), (0, u "Ljava/util/List;"), (2, u "EMPTY_MAP"), (0, u "Ljava/util/Map;"), (4, .class_ 381), (0, u "java/util/Collections$SingletonSet"), (2, .class_ 385), (0, u "java/util/Collections$1"), (1, .class_ 388), (0, u "java/util/Collections$2"), (1, .class_ 391), (0, u "java/util/Collections$SingletonList"), (1, .class_ 394), (0, u "java/util/Collections$SingletonMap"), (22, .class_ 418), (0, u "java/util/Collections$CopiesList"), (4, .class_ 425), (1, u "java/util/Collections$ReverseComparator"), (8, .class_ 435), (0, u "java/util/Collections$ReverseComparator2"), (6, .class_ 443), (0, u "java/util/Collections$3"), (25, .class_ 470), (0, u "java/util/Collections$SetFromMap"), (2, .class_ 474), (0, u "java/util/Collections$SequencedSetFromMap"), (3, .class_ 479), (0, u "java/util/Collections$AsLIFOQueue"), (11, .class_ 492), (0, u "java/util/Collections$EmptySet"), (1, .class_ 495), (0, u "java/util/Collections$EmptyList"), (1, .class_ 498), (0, u "java/util/Collections$EmptyMap"), (1, u "BINARYSEARCH_THRESHOLD"), (0, u "I"), (2, u "REVERSE_THRESHOLD"), (1, u "SHUFFLE_THRESHOLD"), (1, u "FILL_THRESHOLD"), (1, u "ROTATE_THRESHOLD"), (1, u "COPY_THRESHOLD"), (1, u "REPLACEALL_THRESHOLD"), (1, u "INDEXOFSUBLIST_THRESHOLD"), (333, .class_ 851), (0, u "java/util/Collections$CheckedMap$CheckedEntrySet"), (0, .class_ 853), (0, u "java/util/Collections$CheckedMap$CheckedEntrySet$CheckedEntry"), (0, .class_ 855), (0, u "java/util/Collections$CheckedMap$CheckedEntrySet$1"), (0, .class_ 857), (0, u "java/util/Collections$CheckedList$1"), (0, .class_ 859), (0, u "java/util/Collections$CheckedCollection$1"), (0, .class_ 861), (0, u "java/util/Collections$UnmodifiableNavigableMap$EmptyNavigableMap"), (0, .class_ 863), (0, u "java/util/Collections$UnmodifiableMap$UnmodifiableEntrySet"), (0, .class_ 865), (0, u "java/util/Collections$UnmodifiableMap$UnmodifiableEntrySet$UnmodifiableEntry"), (0, .class_ 867), (0, u "java/util/Collections$UnmodifiableMap$UnmodifiableEntrySet$UnmodifiableEntrySetSpliterator"), (0, .class_ 869), (0, u "java/util/Collections$UnmodifiableMap$UnmodifiableEntrySet$1"), (0, .class_ 871), (0, u "java/util/Collections$UnmodifiableList$1"), (0, .class_ 873), (0, u "java/util/Collections$UnmodifiableNavigableSet$EmptyNavigableSet"), (0, .class_ 875), (0, u "java/util/Collections$UnmodifiableCollection$1")] 57

def k16m0 : Method := { name := "<init>", desc := "()V", sig := { parameters := [], returnType := none }, accessFlags := 2, code := none }
/-- java/util/Collections -/
def k16 : Class := { plain "java/util/Collections" (some 0) with
  accessFlags := 33
  interfaces := #[]
  cf := some (fileOf pool16 19 #[.nestMembers #[478, 473, 469, 434, 423, 417, 393, 390, 380, 497, 494, 491, 355, 350, 344, 338, 333, 328, 850, 852, 854, 320, 325, 856, 315, 310, 305, 300, 287, 858, 284, 281, 278, 268, 271, 265, 262, 256, 250, 245, 860, 237, 231, 223, 862, 864, 866, 868, 215, 212, 870, 206, 872, 198, 190, 182, 174, 166, 874, 442, 387, 384]] #[{ accessFlags := 2, nameIndex := 5, descriptorIndex := 6, attributes := #[] }] 33 2 #[] #[{ accessFlags := 26, nameIndex := 500, descriptorIndex := 501, attributes := #[] }, { accessFlags := 26, nameIndex := 504, descriptorIndex := 501, attributes := #[] }, { accessFlags := 26, nameIndex := 506, descriptorIndex := 501, attributes := #[] }, { accessFlags := 26, nameIndex := 508, descriptorIndex := 501, attributes := #[] }, { accessFlags := 26, nameIndex := 510, descriptorIndex := 501, attributes := #[] }, { accessFlags := 26, nameIndex := 512, descriptorIndex := 501, attributes := #[] }, { accessFlags := 26, nameIndex := 514, descriptorIndex := 501, attributes := #[] }, { accessFlags := 26, nameIndex := 516, descriptorIndex := 501, attributes := #[] }, { accessFlags := 10, nameIndex := 84, descriptorIndex := 85, attributes := #[] }, { accessFlags := 25, nameIndex := 362, descriptorIndex := 363, attributes := #[] }, { accessFlags := 25, nameIndex := 370, descriptorIndex := 371, attributes := #[] }, { accessFlags := 25, nameIndex := 374, descriptorIndex := 375, attributes := #[] }])
  fields := #[{ name := "BINARYSEARCH_THRESHOLD", type := .int, accessFlags := 26, slot := 0, constantValue := 0 }, { name := "REVERSE_THRESHOLD", type := .int, accessFlags := 26, slot := 1, constantValue := 0 }, { name := "SHUFFLE_THRESHOLD", type := .int, accessFlags := 26, slot := 2, constantValue := 0 }, { name := "FILL_THRESHOLD", type := .int, accessFlags := 26, slot := 3, constantValue := 0 }, { name := "ROTATE_THRESHOLD", type := .int, accessFlags := 26, slot := 4, constantValue := 0 }, { name := "COPY_THRESHOLD", type := .int, accessFlags := 26, slot := 5, constantValue := 0 }, { name := "REPLACEALL_THRESHOLD", type := .int, accessFlags := 26, slot := 6, constantValue := 0 }, { name := "INDEXOFSUBLIST_THRESHOLD", type := .int, accessFlags := 26, slot := 7, constantValue := 0 }, { name := "r", type := (.object "java/util/Random"), accessFlags := 10, slot := 8, constantValue := 0 }, { name := "EMPTY_SET", type := (.object "java/util/Set"), accessFlags := 25, slot := 9, constantValue := 0 }, { name := "EMPTY_LIST", type := (.object "java/util/List"), accessFlags := 25, slot := 10, constantValue := 0 }, { name := "EMPTY_MAP", type := (.object "java/util/Map"), accessFlags := 25, slot := 11, constantValue := 0 }]
  methods := #[k16m0]
  instanceTypes := #[]
  staticTypes := #[.int, .int, .int, .int, .int, .int, .int, .int, (.object "java/util/Random"), (.object "java/util/Set"), (.object "java/util/List"), (.object "java/util/Map")]
  resolved := Array.replicate 933 none
  statics := some 3 }

def pool17 : Array CpInfo := pool [(8, .class_ 10), (1, u "java/lang/Iterable"), (24, .class_ 36), (0, u "java/lang/Object")] 25

/-- java/lang/Iterable -/
def k17 : Class := { plain "java/lang/Iterable" (some 0) with
  accessFlags := 1537
  interfaces := #[]
  cf := some (fileOf pool17 8 #[] #[] 1537 35 #[] #[])
  fields := #[]
  methods := #[]
  instanceTypes := #[]
  staticTypes := #[]
  resolved := Array.replicate 62 none
  statics := none }

def pool18 : Array CpInfo := pool [(10, .class_ 12), (1, u "java/util/Collection"), (47, .class_ 61), (0, u "java/lang/Object"), (0, .class_ 63), (0, u "java/lang/Iterable")] 51

/-- java/util/Collection -/
def k18 : Class := { plain "java/util/Collection" (some 0) with
  accessFlags := 1537
  interfaces := #[17]
  cf := some (fileOf pool18 10 #[] #[] 1537 60 #[62] #[])
  fields := #[]
  methods := #[]
  instanceTypes := #[]
  staticTypes := #[]
  resolved := Array.replicate 115 none
  statics := none }

def pool19 : Array CpInfo := pool [(2, .class_ 4), (1, u "java/lang/Object"), (0, u "<init>"), (0, u "()V"), (1, .class_ 10), (1, u "java/util/AbstractCollection"), (66, .class_ 78), (0, u "java/util/Collection")] 81

def k19m0 : Method := { name := "<init>", desc := "()V", sig := { parameters := [], returnType := none }, accessFlags := 4, code := none }
/-- java/util/AbstractCollection -/
def k19 : Class := { plain "java/util/AbstractCollection" (some 0) with
  accessFlags := 1057
  interfaces := #[18]
  cf := some (fileOf pool19 8 #[] #[{ accessFlags := 4, nameIndex := 5, descriptorIndex := 6, attributes := #[] }] 1057 2 #[77] #[])
  fields := #[]
  methods := #[k19m0]
  instanceTypes := #[]
  staticTypes := #[]
  resolved := Array.replicate 160 none
  statics := none }

def pool20 : Array CpInfo := pool [(8, .class_ 10), (1, u "java/util/SequencedCollection"), (15, .class_ 27), (0, u "java/lang/Object"), (0, .class_ 29), (0, u "java/util/Collection")] 27

/-- java/util/SequencedCollection -/
def k20 : Class := { plain "java/util/SequencedCollection" (some 0) with
  accessFlags := 1537
  interfaces := #[18]
  cf := some (fileOf pool20 8 #[] #[] 1537 26 #[28] #[])
  fields := #[]
  methods := #[]
  instanceTypes := #[]
  staticTypes := #[]
  resolved := Array.replicate 57 none
  statics := none }

def pool21 : Array CpInfo := pool [(8, .class_ 10), (1, u "java/util/List"), (92, .class_ 104), (0, u "java/lang/Object"), (15, .class_ 121), (0, u "java/util/SequencedCollection")] 129

/-- java/util/List -/
def k21 : Class := { plain "java/util/List" (some 0) with
  accessFlags := 1537
  interfaces := #[20]
  cf := some (fileOf pool21 8 #[] #[] 1537 103 #[120] #[])
  fields := #[]
  methods := #[]
  instanceTypes := #[]
  staticTypes := #[]
  resolved := Array.replicate 251 none
  statics := none }

def pool22 : Array CpInfo := pool [(2, .class_ 4), (1, u "java/util/AbstractCollection"), (0, u "<init>"), (0, u "()V"), (1, .class_ 10), (1, u "java/util/AbstractList"), (0, u "modCount"), (0, u "I"), (64, .class_ 78), (0, u "java/util/AbstractList$Itr"), (3, .class_ 83), (0, u "java/util/AbstractList$ListItr"), (9, .class_ 94), (0, u "java/util/AbstractList$RandomAccessSubList"), (3, .class_ 99), (0, u "java/util/AbstractList$SubList"), (33, .class_ 134), (0, u "java/util/List"), (73, .class_ 209), (0, u "java/util/AbstractList$SubList$1"), (0, .class_ 211), (0, u "java/util/AbstractList$RandomAccessSpliterator")] 6

def k22m0 : Method := { name := "<init>", desc := "()V", sig := { parameters := [], returnType := none }, accessFlags := 4, code := none }
/-- java/util/AbstractList -/
def k22 : Class := { plain "java/util/AbstractList" (some 19) with
  accessFlags := 1057
  interfaces := #[21]
  cf := some (fileOf pool22 8 #[.nestMembers #[93, 98, 208, 210, 82, 77]] #[{ accessFlags := 4, nameIndex := 5, descriptorIndex := 6, attributes := #[] }] 1057 2 #[133] #[{ accessFlags := 132, nameIndex := 11, descriptorIndex := 12, attributes := #[] }])
  fields := #[{ name := "modCount", type := .int, accessFlags := 132, slot := 0, constantValue := 0 }]
  methods := #[k22m0]
  instanceTypes := #[.int]
  staticTypes := #[]
  resolved := Array.replicate 218 none
  statics := none }

def pool23 : Array CpInfo := pool [(1, .class_ 2), (0, u "java/util/RandomAccess"), (0, .class_ 4), (0, u "java/lang/Object")] 2

/-- java/util/RandomAccess -/
def k23 : Class := { plain "java/util/RandomAccess" (some 0) with
  accessFlags := 1537
  interfaces := #[]
  cf := some (fileOf pool23 1 #[] #[] 1537 3 #[] #[])
  fields := #[]
  methods := #[]
  instanceTypes := #[]
  staticTypes := #[]
  resolved := Array.replicate 7 none
  statics := none }

def pool24 : Array CpInfo := pool [(2, .class_ 4), (1, u "java/util/AbstractList"), (0, u "<init>"), (0, u "()V"), (1, .class_ 10), (1, u "java/util/Collections"), (54, .class_ 66), (0, u "java/util/Collections$EmptyList"), (0, .class_ 68), (0, u "java/util/RandomAccess"), (0, .class_ 70), (0, u "java/io/Serializable"), (0, u "serialVersionUID"), (0, u "J")] 77

def k24m0 : Method := { name := "<init>", desc := "()V", sig := { parameters := [], returnType := none }, accessFlags := 2, code := none }
/-- java/util/Collections$EmptyList -/
def k24 : Class := { plain "java/util/Collections$EmptyList" (some 22) with
  accessFlags := 32
  interfaces := #[23, 2]
  cf := some (fileOf pool24 65 #[.nestHost 8] #[{ accessFlags := 2, nameIndex := 5, descriptorIndex := 6, attributes := #[] }] 32 2 #[67, 69] #[{ accessFlags := 26, nameIndex := 71, descriptorIndex := 72, attributes := #[] }])
  fields := #[{ name := "serialVersionUID", type := .long, accessFlags := 26, slot := 0, constantValue := 0 }]
  methods := #[k24m0]
  instanceTypes := #[.int]
  staticTypes := #[.long]
  resolved := Array.replicate 150 none
  statics := none }

def pool25 : Array CpInfo := pool [(2, .class_ 4), (1, u "java/lang/StackTraceElement"), (0, u "<init>"), (2, .class_ 10), (1, u "java/lang/Object"), (0, u "()V"), (2, u "format"), (0, u "B"), (2, u "classLoaderName"), (0, u "Ljava/lang/String;"), (2, u "moduleName"), (2, u "moduleVersion"), (12, u "declaringClass"), (4, u "methodName"), (2, u "fileName"), (2, u "lineNumber"), (0, u "I"), (65, u "declaringClassObject"), (0, u "Ljava/lang/Class;"), (33, .class_ 153), (1, u "java/lang/StackTraceElement$HashedModules"), (17, .class_ 172), (0, u "java/io/Serializable"), (0, u "NATIVE_METHOD"), (1, u "UNKNOWN_SOURCE"), (2, u "BUILTIN_CLASS_LOADER"), (1, u "JDK_NON_UPGRADEABLE_MODULE"), (1, u "serialVersionUID"), (0, u "J")] 51

def k25m0 : Method := { name := "<init>", desc := "()V", sig := { parameters := [], returnType := none }, accessFlags := 2, code := none }
/-- java/lang/StackTraceElement -/
def k25 : Class := { plain "java/lang/StackTraceElement" (some 0) with
  accessFlags := 49
  interfaces := #[2]
  cf := some (fileOf pool25 2 #[.nestMembers #[151]] #[{ accessFlags := 2, nameIndex := 5, descriptorIndex := 11, attributes := #[] }] 49 8 #[171] #[{ accessFlags := 26, nameIndex := 173, descriptorIndex := 19, attributes := #[] }, { accessFlags := 26, nameIndex := 175, descriptorIndex := 19, attributes := #[] }, { accessFlags := 130, nameIndex := 116, descriptorIndex := 117, attributes := #[] }, { accessFlags := 2, nameIndex := 18, descriptorIndex := 19, attributes := #[] }, { accessFlags := 2, nameIndex := 22, descriptorIndex := 19, attributes := #[] }, { accessFlags := 2, nameIndex := 25, descriptorIndex := 19, attributes := #[] }, { accessFlags := 2, nameIndex := 38, descriptorIndex := 19, attributes := #[] }, { accessFlags := 2, nameIndex := 43, descriptorIndex := 19, attributes := #[] }, { accessFlags := 2, nameIndex := 46, descriptorIndex := 19, attributes := #[] }, { accessFlags := 2, nameIndex := 49, descriptorIndex := 50, attributes := #[] }, { accessFlags := 2, nameIndex := 14, descriptorIndex := 15, attributes := #[] }, { accessFlags := 26, nameIndex := 178, descriptorIndex := 15, attributes := #[] }, { accessFlags := 26, nameIndex := 180, descriptorIndex := 15, attributes := #[] }, { accessFlags := 26, nameIndex := 182, descriptorIndex := 183, attributes := #[] }])
  fields := #[{ name := "NATIVE_METHOD", type := (.object "java/lang/String"), accessFlags := 26, slot := 0, constantValue := 0 }, { name := "UNKNOWN_SOURCE", type := (.object "java/lang/String"), accessFlags := 26, slot := 1, constantValue := 0 }, { name := "declaringClassObject", type := (.object "java/lang/Class"), accessFlags := 130, slot := 0, constantValue := 0 }, { name := "classLoaderName", type := (.object "java/lang/String"), accessFlags := 2, slot := 1, constantValue := 0 }, { name := "moduleName", type := (.object "java/lang/String"), accessFlags := 2, slot := 2, constantValue := 0 }, { name := "moduleVersion", type := (.object "java/lang/String"), accessFlags := 2, slot := 3, constantValue := 0 }, { name := "declaringClass", type := (.object "java/lang/String"), accessFlags := 2, slot := 4, constantValue := 0 }, { name := "methodName", type := (.object "java/lang/String"), accessFlags := 2, slot := 5, constantValue := 0 }, { name := "fileName", type := (.object "java/lang/String"), accessFlags := 2, slot := 6, constantValue := 0 }, { name := "lineNumber", type := .int, accessFlags := 2, slot := 7, constantValue := 0 }, { name := "format", type := .byte, accessFlags := 2, slot := 8, constantValue := 0 }, { name := "BUILTIN_CLASS_LOADER", type := .byte, accessFlags := 26, slot := 2, constantValue := 0 }, { name := "JDK_NON_UPGRADEABLE_MODULE", type := .byte, accessFlags := 26, slot := 3, constantValue := 0 }, { name := "serialVersionUID", type := .long, accessFlags := 26, slot := 4, constantValue := 0 }]
  methods := #[k25m0]
  instanceTypes := #[(.object "java/lang/Class"), (.object "java/lang/String"), (.object "java/lang/String"), (.object "java/lang/String"), (.object "java/lang/String"), (.object "java/lang/String"), (.object "java/lang/String"), .int, .byte]
  staticTypes := #[(.object "java/lang/String"), (.object "java/lang/String"), .byte, .byte, .long]
  resolved := Array.replicate 235 none
  statics := none }

def pool26 : Array CpInfo := pool [(1, u "java/lang/Cloneable"), (0, .class_ 1), (0, u "java/lang/Object"), (0, .class_ 3)] 3

/-- java/lang/Cloneable -/
def k26 : Class := { plain "java/lang/Cloneable" (some 0) with
  accessFlags := 1537
  interfaces := #[]
  cf := some (fileOf pool26 2 #[] #[] 1537 4 #[] #[])
  fields := #[]
  methods := #[]
  instanceTypes := #[]
  staticTypes := #[]
  resolved := Array.replicate 8 none
  statics := none }

/-- the primitive byte -/
def k27 : Class := { plain "byte" none with kind := .primitive 'B', accessFlags := 0x411 }
/-- [B -/
def k28 : Class := { plain "[B" (some 0) with kind := .array 27 .byte, interfaces := #[26, 2], accessFlags := 1041 }

/-- the primitive char -/
def k29 : Class := { plain "char" none with kind := .primitive 'C', accessFlags := 0x411 }
/-- [C -/
def k30 : Class := { plain "[C" (some 0) with kind := .array 29 .char, interfaces := #[26, 2], accessFlags := 1041 }

/-- the primitive int -/
def k31 : Class := { plain "int" none with kind := .primitive 'I', accessFlags := 0x411 }
/-- [I -/
def k32 : Class := { plain "[I" (some 0) with kind := .array 31 .int, interfaces := #[26, 2], accessFlags := 1041 }

/-- [Ljava/lang/Object; -/
def k33 : Class := { plain "[Ljava/lang/Object;" (some 0) with kind := .array 0 (.object "java/lang/Object"), interfaces := #[26, 2], accessFlags := 1041 }

/-- [Ljava/lang/StackTraceElement; -/
def k34 : Class := { plain "[Ljava/lang/StackTraceElement;" (some 0) with kind := .array 25 (.object "java/lang/StackTraceElement"), interfaces := #[26, 2], accessFlags := 1041 }

/-- [Ljava/lang/Throwable; -/
def k35 : Class := { plain "[Ljava/lang/Throwable;" (some 0) with kind := .array 10 (.object "java/lang/Throwable"), interfaces := #[26, 2], accessFlags := 1041 }

def heap : Heap := #[{ cls := 7, slots := #[.long 0, .int 1, .null, .int 0, .null, .int 0, .int 0], vm := .statics 7 },
  { cls := 10, slots := #[.long 0, .ref 4, .ref 5, .null, .null, .null, .null, .ref 6, .int 1], vm := .statics 10 },
  { cls := 14, slots := #[.null, .null, .null], vm := .statics 14 },
  { cls := 16, slots := #[.int 0, .int 0, .int 0, .int 0, .int 0, .int 0, .int 0, .int 0, .null, .null, .ref 5, .null], vm := .statics 16 },
  { cls := 34, slots := #[], vm := .none },
  { cls := 24, slots := #[.int 0], vm := .none },
  { cls := 35, slots := #[], vm := .none }]
def classes : Array Class := #[k0, k1, k2, k3, k4, k5, k6, k7, k8, k9, k10, k11, k12, k13, k14, k15, k16, k17, k18, k19, k20, k21, k22, k23, k24, k25, k26, k27, k28, k29, k30, k31, k32, k33, k34, k35]
def interned : List (Array UInt16 × Addr) := []
def slotsUsed : Nat := 32
def theMethod : MethodId := ⟨1, 1⟩
def args0 : Array Value := #[.int 404, .int 7, .int 65]
def aboutOver (below : List Frame) : State where
  vm := { classes := classes, interned := interned.toArray }
  heap := heap
  slotsUsed := slotsUsed
  threads := #[{ frames := .invoking theMethod args0 :: below }]
def below0 : List Frame := [.native { method := ⟨0, 0⟩, args := #[] }]
def about1 : State := aboutOver below0
def p0 : Program := .bare "" "" ""
def e0 : Env := launch0.env 0 0 0
theorem w_frames : about1.frames = Frame.invoking theMethod args0 :: below0 := rfl
set_option maxRecDepth 65536 in
theorem w_args : argsFit about1.vm theMethod args0 = true := by decide +kernel
set_option maxRecDepth 65536 in
theorem w_heap : heapFits about1 = true := by decide +kernel
set_option maxRecDepth 65536 in
theorem w_runnable : about1.curStatus? = some .runnable := by decide +kernel
set_option maxRecDepth 65536 in
theorem w_alone : about1.alone = true := by decide +kernel
set_option maxRecDepth 65536 in
theorem w_named : about1.methodNamed? x = some theMethod := by decide +kernel
set_option maxRecDepth 65536 in
theorem w_hears : about1.hears theMethod below0 = true := by decide +kernel
set_option maxRecDepth 65536 in
theorem w_ripe : about1.ripe theMethod args0 below0 = true := by decide +kernel
theorem w_running : about1.status = .running := rfl
set_option maxRecDepth 65536 in
theorem w_room : about1.hasRoom e0.platform room_1 = true :=
  launch0.hasRoom_least _ room_1 (by decide +kernel) (by decide +kernel) (by decide +kernel) (by decide +kernel) (by decide +kernel) (by decide +kernel)
theorem allAtoms_all (ts : List Jvm.Cond) (a : Array Jvm.Value) (st : Jvm.State) : (allAtoms ts).before a st = ts.all (fun c => c.before a st) := by
  induction ts with
  | nil => rfl
  | cons c t ih =>
    show (Jvm.Cond.and c (allAtoms t)).before a st = _
    rw [Jvm.Cond.before_and, ih, List.all_cons]
def words1 : List Jvm.Cond := Jvm.Cond.code x code maxLocals ret :: tables_1
/-- a 'code' word, met by the world's own term for the bytes: nothing is compared byte by byte -/
theorem code_word {y : MethodName} {bytes : ByteArray} {mx : Nat} {rt : Option FieldType} {a : Array Value} {s : State} {m : MethodId} {meth : Method} {c : Code} (h1 : s.methodNamed? y = some m) (h2 : s.vm.method? m = some meth) (h3 : meth.code = some c) (h4 : c.code = bytes)
    (h5 : (c.maxLocals == mx && c.exceptionTable.isEmpty && decide (c.maxStack ≤ mostOperands) && decide (meth.sig.returnType = rt) && !meth.locks && decide (parseMethodDescriptor y.desc = some meth.sig)) = true) : (Jvm.Cond.code y bytes mx rt).before a s = true := by
  simp only [Bool.and_eq_true, beq_iff_eq, Bool.not_eq_true', decide_eq_true_eq] at h5
  obtain ⟨⟨⟨⟨⟨g1, g2⟩, g3⟩, g4⟩, g5⟩, g6⟩ := h5
  simp [Cond.before, Cond.holds, Cond.value, h1, h2, h3, h4, g1, g2, g3, g4, g5, g6]
def isCode : Jvm.Cond → Bool
  | .code _ _ _ _ => true
  | _ => false
theorem all_split {L : List Jvm.Cond} {P : Jvm.Cond → Bool} (h1 : L.all (fun c => isCode c || P c) = true) (h2 : ∀ c ∈ L.filter isCode, P c = true) : L.all P = true := by
  refine List.all_eq_true.mpr fun c hc => ?_
  have h := List.all_eq_true.mp h1 c hc
  rcases Bool.eq_false_or_eq_true (isCode c) with hi | hi
  · exact h2 c (List.mem_filter.mpr ⟨hc, hi⟩)
  · simpa [hi] using h
set_option maxRecDepth 65536 in
theorem w_c0 : (Jvm.Cond.code x code maxLocals ret).before args0 about1 = true := code_word (m := ⟨1, 1⟩) (meth := k1m1) (c := k1c1) (by decide +kernel) rfl rfl rfl (by decide +kernel)
set_option maxRecDepth 65536 in
theorem w_c1 : (Jvm.Cond.code ({ cls := "java/lang/String", name := "<init>", desc := "([C)V" } : Jvm.MethodName) jdk_42_method_3_code (2 : Nat) (Option.none : Option Jvm.ClassFile.FieldType)).before args0 about1 = true := code_word (m := ⟨7, 1⟩) (meth := k7m1) (c := k7c1) (by decide +kernel) rfl rfl rfl (by decide +kernel)
set_option maxRecDepth 65536 in
theorem w_c2 : (Jvm.Cond.code ({ cls := "java/lang/String", name := "<init>", desc := "([CIILjava/lang/Void;)V" } : Jvm.MethodName) jdk_42_method_149_code (6 : Nat) (Option.none : Option Jvm.ClassFile.FieldType)).before args0 about1 = true := code_word (m := ⟨7, 2⟩) (meth := k7m2) (c := k7c2) (by decide +kernel) rfl rfl rfl (by decide +kernel)
set_option maxRecDepth 65536 in
theorem w_c3 : (Jvm.Cond.code ({ cls := "java/lang/Object", name := "<init>", desc := "()V" } : Jvm.MethodName) object_method_1_code (1 : Nat) (Option.none : Option Jvm.ClassFile.FieldType)).before args0 about1 = true := code_word (m := ⟨0, 0⟩) (meth := k0m0) (c := k0c0) (by decide +kernel) rfl rfl rfl (by decide +kernel)
set_option maxRecDepth 65536 in
theorem w_c4 : (Jvm.Cond.code ({ cls := "java/lang/StringUTF16", name := "compress", desc := "([CII)[B" } : Jvm.MethodName) jdk_52_method_16_code (6 : Nat) (Option.some (Jvm.ClassFile.FieldType.array Jvm.ClassFile.FieldType.byte))).before args0 about1 = true := code_word (m := ⟨8, 2⟩) (meth := k8m2) (c := k8c2) (by decide +kernel) rfl rfl rfl (by decide +kernel)
set_option maxRecDepth 65536 in
theorem w_c5 : (Jvm.Cond.code ({ cls := "java/lang/StringUTF16", name := "compress", desc := "([CI[BII)I" } : Jvm.MethodName) jdk_52_method_21_code (7 : Nat) (Option.some Jvm.ClassFile.FieldType.int)).before args0 about1 = true := code_word (m := ⟨8, 3⟩) (meth := k8m3) (c := k8c3) (by decide +kernel) rfl rfl rfl (by decide +kernel)
set_option maxRecDepth 65536 in
theorem w_c6 : (Jvm.Cond.code ({ cls := "java/lang/StringUTF16", name := "coderFromArrayLen", desc := "([BI)B" } : Jvm.MethodName) jdk_52_method_15_code (2 : Nat) (Option.some Jvm.ClassFile.FieldType.byte)).before args0 about1 = true := code_word (m := ⟨8, 1⟩) (meth := k8m1) (c := k8c1) (by decide +kernel) rfl rfl rfl (by decide +kernel)
set_option maxRecDepth 65536 in
theorem w_c7 : (Jvm.Cond.code ({ cls := "java/lang/Math", name := "min", desc := "(II)I" } : Jvm.MethodName) jdk_29_method_69_code (2 : Nat) (Option.some Jvm.ClassFile.FieldType.int)).before args0 about1 = true := code_word (m := ⟨9, 2⟩) (meth := k9m2) (c := k9c2) (by decide +kernel) rfl rfl rfl (by decide +kernel)
set_option maxRecDepth 65536 in
theorem w_c8 : (Jvm.Cond.code ({ cls := "java/lang/Math", name := "max", desc := "(II)I" } : Jvm.MethodName) jdk_29_method_65_code (2 : Nat) (Option.some Jvm.ClassFile.FieldType.int)).before args0 about1 = true := code_word (m := ⟨9, 1⟩) (meth := k9m1) (c := k9c1) (by decide +kernel) rfl rfl rfl (by decide +kernel)
set_option maxRecDepth 65536 in
theorem w_c9 : (Jvm.Cond.code ({ cls := "com/example/hatchd/hatchd/server/ApiException", name := "<init>", desc := "(ILjava/lang/String;)V" } : Jvm.MethodName) prog_27_method_1_code (3 : Nat) (Option.none : Option Jvm.ClassFile.FieldType)).before args0 about1 = true := code_word (m := ⟨12, 0⟩) (meth := k12m0) (c := k12c0) (by decide +kernel) rfl rfl rfl (by decide +kernel)
set_option maxRecDepth 65536 in
theorem w_c10 : (Jvm.Cond.code ({ cls := "java/lang/Exception", name := "<init>", desc := "(Ljava/lang/String;)V" } : Jvm.MethodName) jdk_59_method_2_code (2 : Nat) (Option.none : Option Jvm.ClassFile.FieldType)).before args0 about1 = true := code_word (m := ⟨11, 1⟩) (meth := k11m1) (c := k11c1) (by decide +kernel) rfl rfl rfl (by decide +kernel)
set_option maxRecDepth 65536 in
theorem w_c11 : (Jvm.Cond.code ({ cls := "java/lang/Throwable", name := "<init>", desc := "(Ljava/lang/String;)V" } : Jvm.MethodName) jdk_78_method_2_code (2 : Nat) (Option.none : Option Jvm.ClassFile.FieldType)).before args0 about1 = true := code_word (m := ⟨10, 1⟩) (meth := k10m1) (c := k10c1) (by decide +kernel) rfl rfl rfl (by decide +kernel)
set_option maxRecDepth 65536 in
theorem w_c12 : (Jvm.Cond.code ({ cls := "java/lang/Throwable", name := "<init>", desc := "()V" } : Jvm.MethodName) jdk_78_method_1_code (1 : Nat) (Option.none : Option Jvm.ClassFile.FieldType)).before args0 about1 = true := code_word (m := ⟨10, 0⟩) (meth := k10m0) (c := k10c0) (by decide +kernel) rfl rfl rfl (by decide +kernel)
set_option maxRecDepth 65536 in
theorem w_c13 : (Jvm.Cond.code ({ cls := "com/example/hatchd/hatchd/server/ApiException", name := "isPassing", desc := "()Z" } : Jvm.MethodName) prog_27_method_2_code (1 : Nat) (Option.some Jvm.ClassFile.FieldType.boolean)).before args0 about1 = true := code_word (m := ⟨12, 1⟩) (meth := k12m1) (c := k12c1) (by decide +kernel) rfl rfl rfl (by decide +kernel)
def codes1 : List Jvm.Cond := [Jvm.Cond.code x code maxLocals ret, Jvm.Cond.code ({ cls := "java/lang/String", name := "<init>", desc := "([C)V" } : Jvm.MethodName) jdk_42_method_3_code (2 : Nat) (Option.none : Option Jvm.ClassFile.FieldType), Jvm.Cond.code ({ cls := "java/lang/String", name := "<init>", desc := "([CIILjava/lang/Void;)V" } : Jvm.MethodName) jdk_42_method_149_code (6 : Nat) (Option.none : Option Jvm.ClassFile.FieldType), Jvm.Cond.code ({ cls := "java/lang/Object", name := "<init>", desc := "()V" } : Jvm.MethodName) object_method_1_code (1 : Nat) (Option.none : Option Jvm.ClassFile.FieldType), Jvm.Cond.code ({ cls := "java/lang/StringUTF16", name := "compress", desc := "([CII)[B" } : Jvm.MethodName) jdk_52_method_16_code (6 : Nat) (Option.some (Jvm.ClassFile.FieldType.array Jvm.ClassFile.FieldType.byte)), Jvm.Cond.code ({ cls := "java/lang/StringUTF16", name := "compress", desc := "([CI[BII)I" } : Jvm.MethodName) jdk_52_method_21_code (7 : Nat) (Option.some Jvm.ClassFile.FieldType.int), Jvm.Cond.code ({ cls := "java/lang/StringUTF16", name := "coderFromArrayLen", desc := "([BI)B" } : Jvm.MethodName) jdk_52_method_15_code (2 : Nat) (Option.some Jvm.ClassFile.FieldType.byte), Jvm.Cond.code ({ cls := "java/lang/Math", name := "min", desc := "(II)I" } : Jvm.MethodName) jdk_29_method_69_code (2 : Nat) (Option.some Jvm.ClassFile.FieldType.int), Jvm.Cond.code ({ cls := "java/lang/Math", name := "max", desc := "(II)I" } : Jvm.MethodName) jdk_29_method_65_code (2 : Nat) (Option.some Jvm.ClassFile.FieldType.int), Jvm.Cond.code ({ cls := "com/example/hatchd/hatchd/server/ApiException", name := "<init>", desc := "(ILjava/lang/String;)V" } : Jvm.MethodName) prog_27_method_1_code (3 : Nat) (Option.none : Option Jvm.ClassFile.FieldType), Jvm.Cond.code ({ cls := "java/lang/Exception", name := "<init>", desc := "(Ljava/lang/String;)V" } : Jvm.MethodName) jdk_59_method_2_code (2 : Nat) (Option.none : Option Jvm.ClassFile.FieldType), Jvm.Cond.code ({ cls := "java/lang/Throwable", name := "<init>", desc := "(Ljava/lang/String;)V" } : Jvm.MethodName) jdk_78_method_2_code (2 : Nat) (Option.none : Option Jvm.ClassFile.FieldType), Jvm.Cond.code ({ cls := "java/lang/Throwable", name := "<init>", desc := "()V" } : Jvm.MethodName) jdk_78_method_1_code (1 : Nat) (Option.none : Option Jvm.ClassFile.FieldType), Jvm.Cond.code ({ cls := "com/example/hatchd/hatchd/server/ApiException", name := "isPassing", desc := "()Z" } : Jvm.MethodName) prog_27_method_2_code (1 : Nat) (Option.some Jvm.ClassFile.FieldType.boolean)]
set_option maxRecDepth 65536 in
theorem codes_eq : words1.filter isCode = codes1 := rfl
theorem w_codes : ∀ c ∈ words1.filter isCode, c.before args0 about1 = true := by
  rw [codes_eq]
  intro c hc
  simp only [codes1, List.mem_cons, List.not_mem_nil, or_false] at hc
  rcases hc with rfl | rfl | rfl | rfl | rfl | rfl | rfl | rfl | rfl | rfl | rfl | rfl | rfl | rfl
  · exact w_c0
  · exact w_c1
  · exact w_c2
  · exact w_c3
  · exact w_c4
  · exact w_c5
  · exact w_c6
  · exact w_c7
  · exact w_c8
  · exact w_c9
  · exact w_c10
  · exact w_c11
  · exact w_c12
  · exact w_c13
set_option maxRecDepth 65536 in
theorem w_t1 : (words1.take 24).all (fun c => isCode c || c.before args0 about1) = true := by decide +kernel
set_option maxRecDepth 65536 in
theorem w_t2 : ((words1.drop 24).take 24).all (fun c => isCode c || c.before args0 about1) = true := by decide +kernel
set_option maxRecDepth 65536 in
theorem w_t3 : (((words1.drop 24).drop 24).take 24).all (fun c => isCode c || c.before args0 about1) = true := by decide +kernel
set_option maxRecDepth 65536 in
theorem w_t4 : ((((words1.drop 24).drop 24).drop 24).take 24).all (fun c => isCode c || c.before args0 about1) = true := by decide +kernel
set_option maxRecDepth 65536 in
theorem w_t5 : ((((words1.drop 24).drop 24).drop 24).drop 24).all (fun c => isCode c || c.before args0 about1) = true := by decide +kernel
theorem w_tables : (allAtoms (Jvm.Cond.code x code maxLocals ret :: tables_1)).before args0 about1 = true := by
  rw [allAtoms_all]
  show words1.all (fun c => c.before args0 about1) = true
  refine all_split ?_ w_codes
  rw [← List.take_append_drop 24 words1, List.all_append, w_t1, ← List.take_append_drop 24 (words1.drop 24), List.all_append, w_t2, ← List.take_append_drop 24 ((words1.drop 24).drop 24), List.all_append, w_t3, ← List.take_append_drop 24 (((words1.drop 24).drop 24).drop 24), List.all_append, w_t4, w_t5]
  rfl
set_option maxRecDepth 65536 in
theorem w_rest : rest_1_c.before args0 about1 = true := by decide +kernel
set_option maxRecDepth 65536 in
theorem w_case : (Jvm.Cond.and given_1 narrow_1).before args0 about1 = true := by decide +kernel
theorem w_applies : (headSpec (Jvm.Cond.code x code maxLocals ret :: tables_1) room_1).applies x e0.platform about1 = true :=
  (Spec.applies_iff w_frames).mpr ⟨w_running, w_runnable, w_alone, w_named, w_hears, w_ripe, w_room, w_tables⟩
theorem atStart : AtStart classFile x code maxLocals ret World_1 tables_1 room_1 Calls_1 rest_1 Pre_1 launch0 p0 e0 about1 theMethod args0 below0 :=
  ⟨lists_1, trivial, launch0.admits_env _ _ _, launch0.least_env, fairChoices_fair.cas, fairChoices_fair.clock, w_frames, w_args, w_heap, w_applies, ⟨(by decide +kernel : framesKnown about1 = true), ⟨(by decide +kernel : tablesKnown about1 = true), trivial⟩⟩, w_rest, w_case⟩
end start1
theorem witness_1 : WitnessClaimed_1 := ⟨start1.p0, start1.e0, start1.about1, start1.theMethod, start1.args0, start1.below0, start1.atStart⟩
end Jvm.Pilot.@@N@@
