import JvmDerived
import JvmDerived.Pilot.@@N@@Statement
import JvmDerived.Pilot.@@N@@Code
set_option linter.unusedVariables false
set_option linter.unusedSimpArgs false
@@BLOCK:NumsL.lean.txt@@
namespace Jvm.RoadKit
open Sem ClassFile Op Lib Jvm.Stand Jvm.Free Jvm.LawKit
section New
variable {p : Program} {l : Launch} {e : Env} {R : Room} {s : State} {m : MethodId} {args : Array Value} {below : List Frame} {meth : Method} {c : Code} {T : State} {locs : List Loc} {cells slots : Nat}
theorem retI (X : Stand p l e R s m args below meth c T locs cells slots) (hx : p.tables.exec = Jvm.exec) {pc : Nat} {Ls : Array Slot} {z : Int32} {rest : List Value} (hret : meth.sig.returnType = some .int) (hd : decode c.code pc = .ok (.ireturn, 1)) {fs : List Frame}
    (hl : ∀ (f : JFrame) (acts : List Action), f.method = m → f.locked = none → f.entered = [] → (doReturn e (T.setTop f) acts (some (.int z))).1 = T.setFrames fs) : Steps p.tables e below (T.setTop (mkF m pc Ls (.int z :: rest))) (T.setFrames fs) :=
  retOut X hx hret rfl (Or.inl ⟨rfl, Or.inl rfl, z, rfl⟩) hd hl
theorem own_cast {L L' : List Loc} {k k' n n' : Nat} (X : Stand p l e R s m args below meth c T L k n) (h1 : L = L') (h2 : k = k') (h3 : n = n') : Stand p l e R s m args below meth c T L' k' n' := by subst h1 h2 h3; exact X
end New
end Jvm.RoadKit
namespace Jvm.Pilot.@@N@@
open Jvm Jvm.ClassFile Sem Op Lib Jvm.Free Jvm.Stand Jvm.LawKit Jvm.RoadKit Bundle Jvm.Pilot.@@N@@.Jvm.D

def own_QJ (r : Int64) (Z : State) (h0 : Heap) (n0 : Nat) (v : Option Value) (h : Heap) (L : List Loc) : Prop := v = some (.long r) ∧ Fr n0 L ∧ h = h0
def own_QD (r : UInt64) (Z : State) (h0 : Heap) (n0 : Nat) (v : Option Value) (h : Heap) (L : List Loc) : Prop := v = some (.double r) ∧ Fr n0 L ∧ h = h0
def own_max (x y : Int64) : Int64 := if lcmpW x y < 0 then y else x
theorem own_max_r {x y : Int64} (h : ¬ y < x) : own_max x y = y := by
  unfold own_max
  by_cases q : x < y
  · rw [if_pos ((lw_lt _ _).mpr q)]
  · rw [if_neg (fun r => q ((lw_lt _ _).mp r))]
    rw [Int64.lt_iff_toInt_lt] at h q
    exact Int64.toInt_inj.mp (by omega)
theorem own_max_l {x y : Int64} (h : ¬ x < y) : own_max x y = x := by
  unfold own_max; rw [if_neg (fun r => h ((lw_lt _ _).mp r))]
def own_QX (Z : State) (q1 q2 : Int64) := own_QJ (own_max q1 q2) Z
theorem own_n4 (x : Int32) : (x &&& (3 : Int32)) = 0 ∨ (x &&& (3 : Int32)) = 1 ∨ (x &&& (3 : Int32)) = 2 ∨ (x &&& (3 : Int32)) = 3 := by
  have e : (x &&& (3 : Int32)).toInt = x.toInt % 2 ^ 2 := Jvm.Kit.i32_mask x 3 (k := 2) (by decide) (by decide)
  have c : (x &&& (3 : Int32)).toInt = 0 ∨ (x &&& (3 : Int32)).toInt = 1 ∨ (x &&& (3 : Int32)).toInt = 2 ∨ (x &&& (3 : Int32)).toInt = 3 := by omega
  rcases c with c | c | c | c
  · exact Or.inl (Int32.toInt_inj.mp (c.trans (by decide)))
  · exact Or.inr (Or.inl (Int32.toInt_inj.mp (c.trans (by decide))))
  · exact Or.inr (Or.inr (Or.inl (Int32.toInt_inj.mp (c.trans (by decide)))))
  · exact Or.inr (Or.inr (Or.inr (Int32.toInt_inj.mp (c.trans (by decide)))))
theorem own_len (x : Int32) : 0 ≤ ((x &&& (2147483647 : Int32)).toInt64).toInt ∧ ((x &&& (2147483647 : Int32)).toInt64).toInt < 2147483648 := by
  rw [Jvm.Kit.i64_of_i32]
  have e : (x &&& (2147483647 : Int32)).toInt = x.toInt % 2 ^ 31 := Jvm.Kit.i32_mask x 2147483647 (k := 31) (by decide) (by decide)
  omega
theorem own_gap (x : Int64) : 0 ≤ (x &&& (1048575 : Int64)).toInt ∧ (x &&& (1048575 : Int64)).toInt < 1048576 := by
  have e : (x &&& (1048575 : Int64)).toInt = x.toInt % 2 ^ 20 := Jvm.Kit.i64_mask x 1048575 (k := 20) (by decide) (by decide)
  omega
theorem own_order {b d0 d1 d2 : Int32} {g1 g2 f0 s1 f1 s2 f2 : Int64} (h0 : f0 = b.toInt64 + (d0 &&& (2147483647 : Int32)).toInt64) (h1 : s1 = f0 + (g1 &&& (1048575 : Int64))) (h2 : f1 = s1 + (d1 &&& (2147483647 : Int32)).toInt64) (h3 : s2 = f1 + (g2 &&& (1048575 : Int64))) (h4 : f2 = s2 + (d2 &&& (2147483647 : Int32)).toInt64) : ¬ f1 < f0 ∧ ¬ f2 < f1 ∧ ¬ f2 < f0 := by
  have a := own_len d0; have b1 := own_len d1; have c := own_len d2; have u := own_gap g1; have w := own_gap g2
  have bl := b.toInt_lt; have bg := b.le_toInt
  have be := Jvm.Kit.i64_of_i32 b
  have e0 : f0.toInt = b.toInt64.toInt + ((d0 &&& (2147483647 : Int32)).toInt64).toInt := by rw [h0]; exact Jvm.Kit.i64_add (by omega) (by omega)
  have e1 : s1.toInt = f0.toInt + (g1 &&& (1048575 : Int64)).toInt := by rw [h1]; exact Jvm.Kit.i64_add (by omega) (by omega)
  have e2 : f1.toInt = s1.toInt + ((d1 &&& (2147483647 : Int32)).toInt64).toInt := by rw [h2]; exact Jvm.Kit.i64_add (by omega) (by omega)
  have e3 : s2.toInt = f1.toInt + (g2 &&& (1048575 : Int64)).toInt := by rw [h3]; exact Jvm.Kit.i64_add (by omega) (by omega)
  have e4 : f2.toInt = s2.toInt + ((d2 &&& (2147483647 : Int32)).toInt64).toInt := by rw [h4]; exact Jvm.Kit.i64_add (by omega) (by omega)
  refine ⟨?_, ?_, ?_⟩ <;> rw [Int64.lt_iff_toInt_lt] <;> omega
theorem own_cmp {x y : Int64} (h : x = y) : cmpValue (FP.dcmp (FP.l2d x) (FP.l2d y)) .l = 0 := dcmpV_eq (congrArg FP.l2d h) (nn_w rfl) .l
theorem own_cmp0 : cmpValue (FP.dcmp FP.dconst0 (FP.l2d (0 : Int64))) .l = 0 := by
  have e : FP.dconst0 = FP.l2d (0 : Int64) := l2d_zero.symm
  exact dcmpV_eq e (nn_w e) .l
theorem d5_0 : decode jdk_29_method_66_code 0 = .ok (.lload_n 0, 1) := by decide +kernel
theorem d5_1 : decode jdk_29_method_66_code 1 = .ok (.lload_n 2, 1) := by decide +kernel
theorem d5_2 : decode jdk_29_method_66_code 2 = .ok (.lcmp, 1) := by decide +kernel
theorem d5_3 : decode jdk_29_method_66_code 3 = .ok (.ifCond .lt 7, 3) := by decide +kernel
theorem d5_6 : decode jdk_29_method_66_code 6 = .ok (.lload_n 0, 1) := by decide +kernel
theorem d5_7 : decode jdk_29_method_66_code 7 = .ok (.goto 4, 3) := by decide +kernel
theorem d5_10 : decode jdk_29_method_66_code 10 = .ok (.lload_n 2, 1) := by decide +kernel
theorem d5_11 : decode jdk_29_method_66_code 11 = .ok (.lreturn, 1) := by decide +kernel
theorem ef_5 (m : MethodId) (x0 : Int64) (x1 : Int64) : entryFrame m #[(.long x0), (.long x1)] 4 = mkF m 0 #[.val (.long x0), .second, .val (.long x1), .second] [] := by first | (simp [entryFrame, mkF, argsToLocals, Value.category]; done) | rfl
set_option maxRecDepth 65536 in
set_option maxHeartbeats 40000000 in
theorem rmX (l : Launch) (Z : State) (a0 : Array Value) (hw : ∀ d ∈ tables_1, d.before a0 Z = true) (ws : List Jvm.Cond) (q1 q2 : Int64) (h0 : Heap) (n0 : Nat) (Z0 : n0 ≤ h0.size) :
    MetFree l (⟨"java/lang/Math", "max", "(JJ)J"⟩ : MethodName) (head1 (Jvm.Cond.code (⟨"java/lang/Math", "max", "(JJ)J"⟩ : MethodName) jdk_29_method_66_code 4 (some .long) :: ws) ({ frames := 0, cells := 0, slots := 0, locals := 0 } : Room)) (fun a U => a = #[(.long q1), (.long q2)] ∧ Z.Warmed39 U.vm ∧ U.heap = h0) (fun _ _ _ _ _ => True) (fun _ U o U' => ∃ v L, o = .returned v ∧ own_QX Z q1 q2 h0 n0 v U'.heap L ∧ FrameEnd U o U' L ({ frames := 0, cells := 0, slots := 0, locals := 0 } : Room).cells ({ frames := 0, cells := 0, slots := 0, locals := 0 } : Room).slots) := by
  refine MetFree.of_bodySF (Jvm.Free.JP.mathPlain rfl (by decide +kernel)) hisR ?_
  intro p e s m args below meth c s₁ Bd hml0 hP hK
  obtain ⟨rfl, hZ, hh⟩ := hP
  have hx := Bd.exec
  have hby := Bd.bytes
  have hml : c.maxLocals = 4 := hml0
  have hown : s.vm.findClass "java/lang/Math" = some m.cls := findClass_of_methodNamed Bd.named
  have hnm := (name_of_methodNamed Bd.named Bd.method).1
  have X0 : Stand p l e ({ frames := 0, cells := 0, slots := 0, locals := 0 } : Room) s m #[(.long q1), (.long q2)] below meth c s₁ [] 0 0 := Stand.of_body Bd
  have e0 : s₁.heap = h0 := by rw [← hh, Bd.state]; rfl
  have N0 := Fr.nil n0
  have pre0 : ∀ tq, Steps p.tables e below (s₁.setTop (mkF m 0 #[.val (.long q1), .second, .val (.long q2), .second] [])) tq → Steps p.tables e below (s₁.setTop (entryFrame m #[(.long q1), (.long q2)] 4)) tq := fun tq k => castTop (ef_5 m q1 q2) k
  have k1 : ∀ tq, Steps p.tables e below (s₁.setTop (mkF m 3 #[.val (.long q1), .second, .val (.long q2), .second] [(.int (lcmpW q1 q2))])) tq → Steps p.tables e below (s₁.setTop (entryFrame m #[(.long q1), (.long q2)] 4)) tq := by
    intro tq kt
    refine pre0 tq ?_
    show Steps p.tables e below (s₁.setTop (mkF m 0 #[.val (.long q1), .second, .val (.long q2), .second] [])) _
    refine XS.lloadN X0.here hx rfl (hb hby d5_0) rfl ?_
    show Steps p.tables e below (s₁.setTop (mkF m 1 #[.val (.long q1), .second, .val (.long q2), .second] [(.long q1)])) _
    refine XS.lloadN X0.here hx rfl (hb hby d5_1) rfl ?_
    show Steps p.tables e below (s₁.setTop (mkF m 2 #[.val (.long q1), .second, .val (.long q2), .second] [(.long q2), (.long q1)])) _
    refine XS.lcmp X0.here hx rfl (hb hby d5_2) rfl ?_
    exact kt
  by_cases hc2 : (lcmpW q1 q2) < (0 : Int32)
  · obtain ⟨fs, hr, hrun, hended, hW, hsame⟩ := X0.leave (v := some (.long q2)) (fun h => by rw [Bd.returns] at h; cases h)
    refine ⟨_, _, k1 _ ?_, hrun, hended, _, _, rfl, ?_, ⟨_, rfl⟩, hW, hsame.mono (by decide) (by decide)⟩
    · show Steps p.tables e below (s₁.setTop (mkF m 3 #[.val (.long q1), .second, .val (.long q2), .second] [(.int (lcmpW q1 q2))])) _
      refine XS.ifYes X0.here hx rfl (pc0 := 3) (pc' := 10) rfl (hb hby d5_3) rfl ((if0 _ _).trans (tlt hc2).1) (by decide) (by decide) ?_
      show Steps p.tables e below (s₁.setTop (mkF m 10 #[.val (.long q1), .second, .val (.long q2), .second] [])) _
      refine XS.lloadN X0.here hx rfl (hb hby d5_10) rfl ?_
      show Steps p.tables e below (s₁.setTop (mkF m 11 #[.val (.long q1), .second, .val (.long q2), .second] [(.long q2)])) _
      exact retOut X0 hx Bd.returns rfl (Or.inr (Or.inl ⟨rfl, rfl, _, rfl⟩)) (hb hby d5_11) hr
    · show own_QX Z q1 q2 h0 n0 _ s₁.heap _
      rw [e0]
      exact ⟨congrArg (fun z => some (Value.long z)) (show q2 = own_max q1 q2 from by unfold own_max; rw [if_pos hc2]), N0, rfl⟩
  · obtain ⟨fs, hr, hrun, hended, hW, hsame⟩ := X0.leave (v := some (.long q1)) (fun h => by rw [Bd.returns] at h; cases h)
    refine ⟨_, _, k1 _ ?_, hrun, hended, _, _, rfl, ?_, ⟨_, rfl⟩, hW, hsame.mono (by decide) (by decide)⟩
    · show Steps p.tables e below (s₁.setTop (mkF m 3 #[.val (.long q1), .second, .val (.long q2), .second] [(.int (lcmpW q1 q2))])) _
      refine XS.ifNo X0.here hx rfl (hb hby d5_3) rfl ((if0 _ _).trans (flt hc2).1) ?_
      show Steps p.tables e below (s₁.setTop (mkF m 6 #[.val (.long q1), .second, .val (.long q2), .second] [])) _
      refine XS.lloadN X0.here hx rfl (hb hby d5_6) rfl ?_
      show Steps p.tables e below (s₁.setTop (mkF m 7 #[.val (.long q1), .second, .val (.long q2), .second] [(.long q1)])) _
      refine XS.goto X0.here hx rfl (pc0 := 7) (pc' := 11) rfl (hb hby d5_7) (by decide) (by decide) ?_
      show Steps p.tables e below (s₁.setTop (mkF m 11 #[.val (.long q1), .second, .val (.long q2), .second] [(.long q1)])) _
      exact retOut X0 hx Bd.returns rfl (Or.inr (Or.inl ⟨rfl, rfl, _, rfl⟩)) (hb hby d5_11) hr
    · show own_QX Z q1 q2 h0 n0 _ s₁.heap _
      rw [e0]
      exact ⟨congrArg (fun z => some (Value.long z)) (show q1 = own_max q1 q2 from by unfold own_max; rw [if_neg hc2]), N0, rfl⟩
def own_QI (Z : State) (a1 a2 a3 : Addr) (h0 : Heap) (n0 : Nat) (v : Option Value) (h : Heap) (L : List Loc) : Prop := ∃ (b : Addr) (kb : ClassId), v = none ∧ Fr n0 L ∧ Keep h0 h [a1] ∧ h0.size ≤ b ∧ Exa Z h a1 "com/example/makespun/makespun/simulate/Timeline" ∧ Fld Z h a1 "com/example/makespun/makespun/simulate/Timeline" "tasks" "[I" (.ref b) ∧ Fld Z h a1 "com/example/makespun/makespun/simulate/Timeline" "size" "I" (.int (0 : Int32)) ∧ Fld Z h a1 "com/example/makespun/makespun/simulate/Timeline" "finishes" "[D" (.ref a3) ∧ Fld Z h a1 "com/example/makespun/makespun/simulate/Timeline" "idleIntervals" "Ljava/util/NavigableMap;" .null ∧ Arv Z h b kb .int (4 : Int32) [(.int (0 : Int32)), (.int (0 : Int32)), (.int (0 : Int32)), (.int (0 : Int32))] (.int (0 : Int32))
theorem d1_0 : decode prog_82_method_1_code 0 = .ok (.aload_n 0, 1) := by decide +kernel
theorem d1_1 : decode prog_82_method_1_code 1 = .ok (.invokespecial 1, 3) := by decide +kernel
theorem d1_4 : decode prog_82_method_1_code 4 = .ok (.aload_n 0, 1) := by decide +kernel
theorem d1_5 : decode prog_82_method_1_code 5 = .ok (.iconst 4, 1) := by decide +kernel
theorem d1_6 : decode prog_82_method_1_code 6 = .ok (.newarray .int, 2) := by decide +kernel
theorem d1_8 : decode prog_82_method_1_code 8 = .ok (.putfield 7, 3) := by decide +kernel
theorem d1_11 : decode prog_82_method_1_code 11 = .ok (.aload_n 0, 1) := by decide +kernel
theorem d1_12 : decode prog_82_method_1_code 12 = .ok (.aload_n 1, 1) := by decide +kernel
theorem d1_13 : decode prog_82_method_1_code 13 = .ok (.putfield 13, 3) := by decide +kernel
theorem d1_16 : decode prog_82_method_1_code 16 = .ok (.aload_n 0, 1) := by decide +kernel
theorem d1_17 : decode prog_82_method_1_code 17 = .ok (.aload_n 2, 1) := by decide +kernel
theorem d1_18 : decode prog_82_method_1_code 18 = .ok (.putfield 17, 3) := by decide +kernel
theorem d1_21 : decode prog_82_method_1_code 21 = .ok (.return_, 1) := by decide +kernel
theorem pn_1 : plainName "com/example/makespun/makespun/simulate/Timeline" = true := by first | (simp [plainName, overriddenIn]; done) | decide +kernel
theorem ef_1 (m : MethodId) (x0 : Addr) (x1 : Addr) (x2 : Addr) : entryFrame m #[(.ref x0), (.ref x1), (.ref x2)] 3 = mkF m 0 #[.val (.ref x0), .val (.ref x1), .val (.ref x2)] [] := by first | (simp [entryFrame, mkF, argsToLocals, Value.category]; done) | rfl
set_option maxRecDepth 65536 in
set_option maxHeartbeats 40000000 in
theorem rmI (l : Launch) (Z : State) (a0 : Array Value) (hw : ∀ d ∈ tables_1, d.before a0 Z = true) (ws : List Jvm.Cond) (a1 a2 a3 : Addr) (h0 : Heap) (n0 : Nat) (Z0 : n0 ≤ h0.size) (E_a1 : Exa Z h0 a1 "com/example/makespun/makespun/simulate/Timeline") (F_tasks : Fld Z h0 a1 "com/example/makespun/makespun/simulate/Timeline" "tasks" "[I" .null) (F_starts : Fld Z h0 a1 "com/example/makespun/makespun/simulate/Timeline" "starts" "[D" .null) (F_finishes : Fld Z h0 a1 "com/example/makespun/makespun/simulate/Timeline" "finishes" "[D" .null) (F_size : Fld Z h0 a1 "com/example/makespun/makespun/simulate/Timeline" "size" "I" (.int (0 : Int32))) (F_idleIntervals : Fld Z h0 a1 "com/example/makespun/makespun/simulate/Timeline" "idleIntervals" "Ljava/util/NavigableMap;" .null) (g_a1 : n0 ≤ a1) :
    MetFree l (⟨"com/example/makespun/makespun/simulate/Timeline", "<init>", "([D[D)V"⟩ : MethodName) (head1 (Jvm.Cond.code (⟨"com/example/makespun/makespun/simulate/Timeline", "<init>", "([D[D)V"⟩ : MethodName) prog_82_method_1_code 3 none :: ws) ({ frames := 1, cells := 1, slots := 4, locals := 14 } : Room)) (fun a U => a = #[(.ref a1), (.ref a2), (.ref a3)] ∧ Z.Warmed39 U.vm ∧ U.heap = h0) (fun _ _ _ _ _ => True) (fun _ U o U' => ∃ v L, o = .returned v ∧ own_QI Z a1 a2 a3 h0 n0 v U'.heap L ∧ FrameEnd U o U' L ({ frames := 1, cells := 1, slots := 4, locals := 14 } : Room).cells ({ frames := 1, cells := 1, slots := 4, locals := 14 } : Room).slots) := by
  refine MetFree.of_bodySF (plainFor_of_name pn_1) hisR ?_
  intro p e s m args below meth c s₁ Bd hml0 hP hK
  obtain ⟨rfl, hZ, hh⟩ := hP
  have hx := Bd.exec
  have hby := Bd.bytes
  have hml : c.maxLocals = 3 := hml0
  have hown : s.vm.findClass "com/example/makespun/makespun/simulate/Timeline" = some m.cls := findClass_of_methodNamed Bd.named
  have hnm := (name_of_methodNamed Bd.named Bd.method).1
  have X0 : Stand p l e ({ frames := 1, cells := 1, slots := 4, locals := 14 } : Room) s m #[(.ref a1), (.ref a2), (.ref a3)] below meth c s₁ [] 0 0 := Stand.of_body Bd
  have e0 : s₁.heap = h0 := by rw [← hh, Bd.state]; rfl
  have N0 := Fr.nil n0
  have pre0 : ∀ tq, Steps p.tables e below (s₁.setTop (mkF m 0 #[.val (.ref a1), .val (.ref a2), .val (.ref a3)] [])) tq → Steps p.tables e below (s₁.setTop (entryFrame m #[(.ref a1), (.ref a2), (.ref a3)] 3)) tq := fun tq k => castTop (ef_1 m a1 a2 a3) k
  obtain ⟨T1, X1, e1, st1⟩ := initO X0 hx hZ hown (hw _ (List.mem_of_getElem? (i := 11) rfl)) (hw _ (List.mem_of_getElem? (i := 12) rfl)) (hw _ (List.mem_of_getElem? (i := 13) rfl)) e0 (g := (mkF m 1 #[.val (.ref a1), .val (.ref a2), .val (.ref a3)] [(.ref a1)])) rfl (by rw [hml]; rfl) rfl (hb hby d1_1) (by decide) (W := 0) (by show 2 * 0 + _ ≤ _; exact Nat.le_of_eq rfl) (by decide)
  obtain ⟨T2, h2, k2, X2, e2, E2, A2, st2⟩ := newP X1 hx hZ (hw _ (List.mem_of_getElem? (i := 0) rfl)) e1 (g := (mkF m 6 #[.val (.ref a1), .val (.ref a2), .val (.ref a3)] [(.int (4 : Int32)), (.ref a1)])) rfl (hb hby d1_6) rfl (by decide) (cap := 4) (by decide) (by decide) (by decide) (by decide)
  obtain ⟨b2, g2⟩ : ∃ z, z = h0.size := ⟨_, rfl⟩
  rw [← g2] at A2 st2
  have ne_a1_b2 : a1 ≠ b2 := Nat.ne_of_lt (Nat.lt_of_lt_of_le E_a1.lt (Nat.le_of_eq g2.symm))
  have g_b2 : n0 ≤ b2 := Nat.le_trans Z0 (Nat.le_of_eq g2.symm)
  have sz_b2 : h0.size ≤ b2 := Nat.le_trans (Keep.refl h0 [a1]).1 (Nat.le_of_eq g2.symm)
  have f3 := E_a1.ext E2
  have f4 := F_tasks.ext E2
  have f5 := F_starts.ext E2
  have f6 := F_finishes.ext E2
  have f7 := F_size.ext E2
  have f8 := F_idleIntervals.ext E2
  have z9 := Nat.le_trans Z0 E2.1
  have kp10 := (Keep.refl h0 [a1]).ext E2
  have V_b2 : Arv Z h2 b2 k2 .int (4 : Int32) [(.int (0 : Int32)), (.int (0 : Int32)), (.int (0 : Int32)), (.int (0 : Int32))] (.int (0 : Int32)) := (Arv.new A2 (by decide)).pad (pad_rep [] (.int (0 : Int32)) 4)
  obtain ⟨T11, h11, X11, e11, W11, st11⟩ := putF X2 hx hZ hown (host := "") (Or.inl (hw _ (List.mem_of_getElem? (i := 14) rfl))) Via.refl e2 f4 f3 (Or.inl (hw _ (List.mem_of_getElem? (i := 15) rfl))) (hw _ (List.mem_of_getElem? (i := 6) rfl)) (ty := (.array .int)) (by decide) rfl rfl (g := (mkF m 8 #[.val (.ref a1), .val (.ref a2), .val (.ref a3)] [(.ref b2), (.ref a1)])) rfl rfl (hb hby d1_8)
  have f12 := f3.wr W11
  have f13 := f4.same W11
  have f14 := f5.other W11 (Or.inr (slot_ne (Or.inr (hw _ (List.mem_of_getElem? (i := 17) rfl))) (Or.inl (hw _ (List.mem_of_getElem? (i := 15) rfl))) (by decide) (t := (.array .double)) (t' := (.array .int)) (by decide) (by decide)))
  have f15 := f6.other W11 (Or.inr (slot_ne (Or.inr (hw _ (List.mem_of_getElem? (i := 19) rfl))) (Or.inl (hw _ (List.mem_of_getElem? (i := 15) rfl))) (by decide) (t := (.array .double)) (t' := (.array .int)) (by decide) (by decide)))
  have f16 := f7.other W11 (Or.inr (slot_ne (Or.inl (hw _ (List.mem_of_getElem? (i := 26) rfl))) (Or.inl (hw _ (List.mem_of_getElem? (i := 15) rfl))) (by decide) (t := .int) (t' := (.array .int)) (by decide) (by decide)))
  have f17 := f8.other W11 (Or.inr (slot_ne (Or.inl (hw _ (List.mem_of_getElem? (i := 33) rfl))) (Or.inl (hw _ (List.mem_of_getElem? (i := 15) rfl))) (by decide) (t := (.object "java/util/NavigableMap")) (t' := (.array .int)) (by decide) (by decide)))
  have f18 := V_b2.other W11 (Ne.symm ne_a1_b2)
  have kp19 := kp10.wr W11 (Or.inl (List.mem_of_getElem? (i := 0) rfl))
  have z20 := Nat.le_trans z9 (Keep.of_wr W11).1
  have N21 := Fr.snoc X11 N0 g_a1
  obtain ⟨T22, h22, X22, e22, W22, st22⟩ := putF X11 hx hZ hown (host := "") (Or.inl (hw _ (List.mem_of_getElem? (i := 16) rfl))) Via.refl e11 f14 f12 (Or.inr ⟨(hw _ (List.mem_of_getElem? (i := 17) rfl)), rfl, hnm⟩) (hw _ (List.mem_of_getElem? (i := 6) rfl)) (ty := (.array .double)) (by decide) rfl rfl (g := (mkF m 13 #[.val (.ref a1), .val (.ref a2), .val (.ref a3)] [(.ref a2), (.ref a1)])) rfl rfl (hb hby d1_13)
  have f23 := f12.wr W22
  have f24 := f13.other W22 (Or.inr (slot_ne (Or.inl (hw _ (List.mem_of_getElem? (i := 15) rfl))) (Or.inr (hw _ (List.mem_of_getElem? (i := 17) rfl))) (by decide) (t := (.array .int)) (t' := (.array .double)) (by decide) (by decide)))
  have f25 := f14.same W22
  have f26 := f15.other W22 (Or.inr (slot_ne (Or.inr (hw _ (List.mem_of_getElem? (i := 19) rfl))) (Or.inr (hw _ (List.mem_of_getElem? (i := 17) rfl))) (by decide) (t := (.array .double)) (t' := (.array .double)) (by decide) (by decide)))
  have f27 := f16.other W22 (Or.inr (slot_ne (Or.inl (hw _ (List.mem_of_getElem? (i := 26) rfl))) (Or.inr (hw _ (List.mem_of_getElem? (i := 17) rfl))) (by decide) (t := .int) (t' := (.array .double)) (by decide) (by decide)))
  have f28 := f17.other W22 (Or.inr (slot_ne (Or.inl (hw _ (List.mem_of_getElem? (i := 33) rfl))) (Or.inr (hw _ (List.mem_of_getElem? (i := 17) rfl))) (by decide) (t := (.object "java/util/NavigableMap")) (t' := (.array .double)) (by decide) (by decide)))
  have f29 := f18.other W22 (Ne.symm ne_a1_b2)
  have kp30 := kp19.wr W22 (Or.inl (List.mem_of_getElem? (i := 0) rfl))
  have z31 := Nat.le_trans z20 (Keep.of_wr W22).1
  have N32 := Fr.snoc X22 N21 g_a1
  obtain ⟨T33, h33, X33, e33, W33, st33⟩ := putF X22 hx hZ hown (host := "") (Or.inl (hw _ (List.mem_of_getElem? (i := 18) rfl))) Via.refl e22 f26 f23 (Or.inr ⟨(hw _ (List.mem_of_getElem? (i := 19) rfl)), rfl, hnm⟩) (hw _ (List.mem_of_getElem? (i := 6) rfl)) (ty := (.array .double)) (by decide) rfl rfl (g := (mkF m 18 #[.val (.ref a1), .val (.ref a2), .val (.ref a3)] [(.ref a3), (.ref a1)])) rfl rfl (hb hby d1_18)
  have f34 := f23.wr W33
  have f35 := f24.other W33 (Or.inr (slot_ne (Or.inl (hw _ (List.mem_of_getElem? (i := 15) rfl))) (Or.inr (hw _ (List.mem_of_getElem? (i := 19) rfl))) (by decide) (t := (.array .int)) (t' := (.array .double)) (by decide) (by decide)))
  have f36 := f25.other W33 (Or.inr (slot_ne (Or.inr (hw _ (List.mem_of_getElem? (i := 17) rfl))) (Or.inr (hw _ (List.mem_of_getElem? (i := 19) rfl))) (by decide) (t := (.array .double)) (t' := (.array .double)) (by decide) (by decide)))
  have f37 := f26.same W33
  have f38 := f27.other W33 (Or.inr (slot_ne (Or.inl (hw _ (List.mem_of_getElem? (i := 26) rfl))) (Or.inr (hw _ (List.mem_of_getElem? (i := 19) rfl))) (by decide) (t := .int) (t' := (.array .double)) (by decide) (by decide)))
  have f39 := f28.other W33 (Or.inr (slot_ne (Or.inl (hw _ (List.mem_of_getElem? (i := 33) rfl))) (Or.inr (hw _ (List.mem_of_getElem? (i := 19) rfl))) (by decide) (t := (.object "java/util/NavigableMap")) (t' := (.array .double)) (by decide) (by decide)))
  have f40 := f29.other W33 (Ne.symm ne_a1_b2)
  have kp41 := kp30.wr W33 (Or.inl (List.mem_of_getElem? (i := 0) rfl))
  have z42 := Nat.le_trans z31 (Keep.of_wr W33).1
  have N43 := Fr.snoc X33 N32 g_a1
  obtain ⟨fs, hr, hrun, hended, hW, hsame⟩ := X33.leave (v := none) (fun _ => rfl)
  refine ⟨_, _, pre0 _ ?_, hrun, hended, _, _, rfl, ?_, ⟨_, rfl⟩, hW, hsame.mono (by decide) (by decide)⟩
  · show Steps p.tables e below (s₁.setTop (mkF m 0 #[.val (.ref a1), .val (.ref a2), .val (.ref a3)] [])) _
    refine XS.aloadN X0.here hx rfl (hb hby d1_0) rfl rfl ?_
    show Steps p.tables e below (s₁.setTop (mkF m 1 #[.val (.ref a1), .val (.ref a2), .val (.ref a3)] [(.ref a1)])) _
    refine st1 _ ?_
    show Steps p.tables e below (T1.setTop (mkF m 4 #[.val (.ref a1), .val (.ref a2), .val (.ref a3)] [])) _
    refine XS.aloadN X1.here hx rfl (hb hby d1_4) rfl rfl ?_
    show Steps p.tables e below (T1.setTop (mkF m 5 #[.val (.ref a1), .val (.ref a2), .val (.ref a3)] [(.ref a1)])) _
    refine XS.iconst X1.here hx rfl (hb hby d1_5) ?_
    show Steps p.tables e below (T1.setTop (mkF m 6 #[.val (.ref a1), .val (.ref a2), .val (.ref a3)] [(.int (4 : Int32)), (.ref a1)])) _
    refine st2 _ ?_
    show Steps p.tables e below (T2.setTop (mkF m 8 #[.val (.ref a1), .val (.ref a2), .val (.ref a3)] [(.ref b2), (.ref a1)])) _
    refine st11 _ ?_
    show Steps p.tables e below (T11.setTop (mkF m 11 #[.val (.ref a1), .val (.ref a2), .val (.ref a3)] [])) _
    refine XS.aloadN X11.here hx rfl (hb hby d1_11) rfl rfl ?_
    show Steps p.tables e below (T11.setTop (mkF m 12 #[.val (.ref a1), .val (.ref a2), .val (.ref a3)] [(.ref a1)])) _
    refine XS.aloadN X11.here hx rfl (hb hby d1_12) rfl rfl ?_
    show Steps p.tables e below (T11.setTop (mkF m 13 #[.val (.ref a1), .val (.ref a2), .val (.ref a3)] [(.ref a2), (.ref a1)])) _
    refine st22 _ ?_
    show Steps p.tables e below (T22.setTop (mkF m 16 #[.val (.ref a1), .val (.ref a2), .val (.ref a3)] [])) _
    refine XS.aloadN X22.here hx rfl (hb hby d1_16) rfl rfl ?_
    show Steps p.tables e below (T22.setTop (mkF m 17 #[.val (.ref a1), .val (.ref a2), .val (.ref a3)] [(.ref a1)])) _
    refine XS.aloadN X22.here hx rfl (hb hby d1_17) rfl rfl ?_
    show Steps p.tables e below (T22.setTop (mkF m 18 #[.val (.ref a1), .val (.ref a2), .val (.ref a3)] [(.ref a3), (.ref a1)])) _
    refine st33 _ ?_
    show Steps p.tables e below (T33.setTop (mkF m 21 #[.val (.ref a1), .val (.ref a2), .val (.ref a3)] [])) _
    exact X33.returnOut hx Bd.returns (hb hby d1_21) hr
  · show own_QI Z a1 a2 a3 h0 n0 _ T33.heap _
    rw [e33]
    exact ⟨b2, k2, rfl, N43, kp41, sz_b2, f34, f35, f38, f37, f39, f40⟩
def own_QA00 (Z : State) (a1 b a3 : Addr) (kb : ClassId) (tk t0 t1 t2 t3 : Int32) (h0 : Heap) (n0 : Nat) (v : Option Value) (h : Heap) (L : List Loc) : Prop := v = none ∧ Fr n0 L ∧ Keep h0 h [a1, b] ∧ Exa Z h a1 "com/example/makespun/makespun/simulate/Timeline" ∧ Fld Z h a1 "com/example/makespun/makespun/simulate/Timeline" "tasks" "[I" (.ref b) ∧ Fld Z h a1 "com/example/makespun/makespun/simulate/Timeline" "size" "I" (.int (1 : Int32)) ∧ Fld Z h a1 "com/example/makespun/makespun/simulate/Timeline" "finishes" "[D" (.ref a3) ∧ Fld Z h a1 "com/example/makespun/makespun/simulate/Timeline" "idleIntervals" "Ljava/util/NavigableMap;" .null ∧ Arv Z h b kb .int (4 : Int32) [(.int tk), (.int t1), (.int t2), (.int t3)] (.int (0 : Int32))
theorem d4_0 : decode prog_82_method_7_code 0 = .ok (.aload_n 0, 1) := by decide +kernel
theorem d4_1 : decode prog_82_method_7_code 1 = .ok (.getfield 35, 3) := by decide +kernel
theorem d4_4 : decode prog_82_method_7_code 4 = .ok (.ifnull 9, 3) := by decide +kernel
theorem d4_7 : decode prog_82_method_7_code 7 = .ok (.aload_n 0, 1) := by decide +kernel
theorem d4_8 : decode prog_82_method_7_code 8 = .ok (.iload_n 1, 1) := by decide +kernel
theorem d4_9 : decode prog_82_method_7_code 9 = .ok (.iload_n 2, 1) := by decide +kernel
theorem d4_10 : decode prog_82_method_7_code 10 = .ok (.invokevirtual 98, 3) := by decide +kernel
theorem d4_13 : decode prog_82_method_7_code 13 = .ok (.aload_n 0, 1) := by decide +kernel
theorem d4_14 : decode prog_82_method_7_code 14 = .ok (.getfield 20, 3) := by decide +kernel
theorem d4_17 : decode prog_82_method_7_code 17 = .ok (.aload_n 0, 1) := by decide +kernel
theorem d4_18 : decode prog_82_method_7_code 18 = .ok (.getfield 7, 3) := by decide +kernel
theorem d4_21 : decode prog_82_method_7_code 21 = .ok (.arraylength, 1) := by decide +kernel
theorem d4_22 : decode prog_82_method_7_code 22 = .ok (.if_icmp .ne 20, 3) := by decide +kernel
theorem d4_25 : decode prog_82_method_7_code 25 = .ok (.aload_n 0, 1) := by decide +kernel
theorem d4_26 : decode prog_82_method_7_code 26 = .ok (.aload_n 0, 1) := by decide +kernel
theorem d4_27 : decode prog_82_method_7_code 27 = .ok (.getfield 7, 3) := by decide +kernel
theorem d4_30 : decode prog_82_method_7_code 30 = .ok (.iconst 2, 1) := by decide +kernel
theorem d4_31 : decode prog_82_method_7_code 31 = .ok (.aload_n 0, 1) := by decide +kernel
theorem d4_32 : decode prog_82_method_7_code 32 = .ok (.getfield 20, 3) := by decide +kernel
theorem d4_35 : decode prog_82_method_7_code 35 = .ok (.imul, 1) := by decide +kernel
theorem d4_36 : decode prog_82_method_7_code 36 = .ok (.invokestatic 102, 3) := by decide +kernel
theorem d4_39 : decode prog_82_method_7_code 39 = .ok (.putfield 7, 3) := by decide +kernel
theorem d4_42 : decode prog_82_method_7_code 42 = .ok (.aload_n 0, 1) := by decide +kernel
theorem d4_43 : decode prog_82_method_7_code 43 = .ok (.getfield 7, 3) := by decide +kernel
theorem d4_46 : decode prog_82_method_7_code 46 = .ok (.iload_n 1, 1) := by decide +kernel
theorem d4_47 : decode prog_82_method_7_code 47 = .ok (.aload_n 0, 1) := by decide +kernel
theorem d4_48 : decode prog_82_method_7_code 48 = .ok (.getfield 7, 3) := by decide +kernel
theorem d4_51 : decode prog_82_method_7_code 51 = .ok (.iload_n 1, 1) := by decide +kernel
theorem d4_52 : decode prog_82_method_7_code 52 = .ok (.iconst 1, 1) := by decide +kernel
theorem d4_53 : decode prog_82_method_7_code 53 = .ok (.iadd, 1) := by decide +kernel
theorem d4_54 : decode prog_82_method_7_code 54 = .ok (.aload_n 0, 1) := by decide +kernel
theorem d4_55 : decode prog_82_method_7_code 55 = .ok (.getfield 20, 3) := by decide +kernel
theorem d4_58 : decode prog_82_method_7_code 58 = .ok (.iload_n 1, 1) := by decide +kernel
theorem d4_59 : decode prog_82_method_7_code 59 = .ok (.isub, 1) := by decide +kernel
theorem d4_60 : decode prog_82_method_7_code 60 = .ok (.invokestatic 108, 3) := by decide +kernel
theorem d4_63 : decode prog_82_method_7_code 63 = .ok (.aload_n 0, 1) := by decide +kernel
theorem d4_64 : decode prog_82_method_7_code 64 = .ok (.getfield 7, 3) := by decide +kernel
theorem d4_67 : decode prog_82_method_7_code 67 = .ok (.iload_n 1, 1) := by decide +kernel
theorem d4_68 : decode prog_82_method_7_code 68 = .ok (.iload_n 2, 1) := by decide +kernel
theorem d4_69 : decode prog_82_method_7_code 69 = .ok (.iastore, 1) := by decide +kernel
theorem d4_70 : decode prog_82_method_7_code 70 = .ok (.aload_n 0, 1) := by decide +kernel
theorem d4_71 : decode prog_82_method_7_code 71 = .ok (.dup, 1) := by decide +kernel
theorem d4_72 : decode prog_82_method_7_code 72 = .ok (.getfield 20, 3) := by decide +kernel
theorem d4_75 : decode prog_82_method_7_code 75 = .ok (.iconst 1, 1) := by decide +kernel
theorem d4_76 : decode prog_82_method_7_code 76 = .ok (.iadd, 1) := by decide +kernel
theorem d4_77 : decode prog_82_method_7_code 77 = .ok (.putfield 20, 3) := by decide +kernel
theorem d4_80 : decode prog_82_method_7_code 80 = .ok (.return_, 1) := by decide +kernel
theorem pn_4 : plainName "com/example/makespun/makespun/simulate/Timeline" = true := by first | (simp [plainName, overriddenIn]; done) | decide +kernel
theorem ef_4 (m : MethodId) (x0 : Addr) (x1 : Int32) (x2 : Int32) : entryFrame m #[(.ref x0), (.int x1), (.int x2)] 3 = mkF m 0 #[.val (.ref x0), .val (.int x1), .val (.int x2)] [] := by first | (simp [entryFrame, mkF, argsToLocals, Value.category]; done) | rfl
set_option maxRecDepth 65536 in
set_option maxHeartbeats 40000000 in
theorem rmA00 (l : Launch) (Z : State) (a0 : Array Value) (hw : ∀ d ∈ tables_1, d.before a0 Z = true) (ws : List Jvm.Cond) (a1 b a3 : Addr) (kb : ClassId) (tk t0 t1 t2 t3 : Int32) (h0 : Heap) (n0 : Nat) (Z0 : n0 ≤ h0.size) (E_a1 : Exa Z h0 a1 "com/example/makespun/makespun/simulate/Timeline") (Ft : Fld Z h0 a1 "com/example/makespun/makespun/simulate/Timeline" "tasks" "[I" (.ref b)) (Fs : Fld Z h0 a1 "com/example/makespun/makespun/simulate/Timeline" "size" "I" (.int (0 : Int32))) (Ff : Fld Z h0 a1 "com/example/makespun/makespun/simulate/Timeline" "finishes" "[D" (.ref a3)) (Fi : Fld Z h0 a1 "com/example/makespun/makespun/simulate/Timeline" "idleIntervals" "Ljava/util/NavigableMap;" .null) (Vt : Arv Z h0 b kb .int (4 : Int32) [(.int t0), (.int t1), (.int t2), (.int t3)] (.int (0 : Int32))) (hne : a1 ≠ b) (g_a1 : n0 ≤ a1) (g_b : n0 ≤ b) :
    MetFree l (⟨"com/example/makespun/makespun/simulate/Timeline", "add", "(II)V"⟩ : MethodName) (head1 (Jvm.Cond.code (⟨"com/example/makespun/makespun/simulate/Timeline", "add", "(II)V"⟩ : MethodName) prog_82_method_7_code 3 none :: ws) ({ frames := 1, cells := 0, slots := 0, locals := 64 } : Room)) (fun a U => a = #[(.ref a1), (.int (0 : Int32)), (.int tk)] ∧ Z.Warmed39 U.vm ∧ U.heap = h0) (fun _ _ _ _ _ => True) (fun _ U o U' => ∃ v L, o = .returned v ∧ own_QA00 Z a1 b a3 kb tk t0 t1 t2 t3 h0 n0 v U'.heap L ∧ FrameEnd U o U' L ({ frames := 1, cells := 0, slots := 0, locals := 64 } : Room).cells ({ frames := 1, cells := 0, slots := 0, locals := 64 } : Room).slots) := by
  refine MetFree.of_bodySF (plainFor_of_name pn_4) hisR ?_
  intro p e s m args below meth c s₁ Bd hml0 hP hK
  obtain ⟨rfl, hZ, hh⟩ := hP
  have hx := Bd.exec
  have hby := Bd.bytes
  have hml : c.maxLocals = 3 := hml0
  have hown : s.vm.findClass "com/example/makespun/makespun/simulate/Timeline" = some m.cls := findClass_of_methodNamed Bd.named
  have hnm := (name_of_methodNamed Bd.named Bd.method).1
  have X0 : Stand p l e ({ frames := 1, cells := 0, slots := 0, locals := 64 } : Room) s m #[(.ref a1), (.int (0 : Int32)), (.int tk)] below meth c s₁ [] 0 0 := Stand.of_body Bd
  have e0 : s₁.heap = h0 := by rw [← hh, Bd.state]; rfl
  have N0 := Fr.nil n0
  have pre0 : ∀ tq, Steps p.tables e below (s₁.setTop (mkF m 0 #[.val (.ref a1), .val (.int (0 : Int32)), .val (.int tk)] [])) tq → Steps p.tables e below (s₁.setTop (entryFrame m #[(.ref a1), (.int (0 : Int32)), (.int tk)] 3)) tq := fun tq k => castTop (ef_4 m a1 (0 : Int32) tk) k
  obtain ⟨T1, X1, e1, st1⟩ := getF X0 hx hZ hown (host := "") (Or.inl (hw _ (List.mem_of_getElem? (i := 32) rfl))) Via.refl e0 Fi (g := (mkF m 1 #[.val (.ref a1), .val (.int (0 : Int32)), .val (.int tk)] [(.ref a1)])) rfl rfl (hb hby d4_1)
  obtain ⟨T2, X2, e2, st2⟩ := getF X1 hx hZ hown (host := "") (Or.inl (hw _ (List.mem_of_getElem? (i := 25) rfl))) Via.refl e1 Fs (g := (mkF m 14 #[.val (.ref a1), .val (.int (0 : Int32)), .val (.int tk)] [(.ref a1)])) rfl rfl (hb hby d4_14)
  obtain ⟨T3, X3, e3, st3⟩ := getF X2 hx hZ hown (host := "") (Or.inl (hw _ (List.mem_of_getElem? (i := 14) rfl))) Via.refl e2 Ft (g := (mkF m 18 #[.val (.ref a1), .val (.int (0 : Int32)), .val (.int tk)] [(.ref a1), (.int (0 : Int32))])) rfl rfl (hb hby d4_18)
  obtain ⟨clq4, Arq4, cq4, Sq4, nq4, Hq4, Gq4⟩ := id Vt
  obtain ⟨T5, X5, e5, st5⟩ := getF X3 hx hZ hown (host := "") (Or.inl (hw _ (List.mem_of_getElem? (i := 14) rfl))) Via.refl e3 Ft (g := (mkF m 43 #[.val (.ref a1), .val (.int (0 : Int32)), .val (.int tk)] [(.ref a1)])) rfl rfl (hb hby d4_43)
  obtain ⟨T6, X6, e6, st6⟩ := getF X5 hx hZ hown (host := "") (Or.inl (hw _ (List.mem_of_getElem? (i := 14) rfl))) Via.refl e5 Ft (g := (mkF m 48 #[.val (.ref a1), .val (.int (0 : Int32)), .val (.int tk)] [(.ref a1), (.int (0 : Int32)), (.ref b)])) rfl rfl (hb hby d4_48)
  obtain ⟨T7, X7, e7, st7⟩ := getF X6 hx hZ hown (host := "") (Or.inl (hw _ (List.mem_of_getElem? (i := 25) rfl))) Via.refl e6 Fs (g := (mkF m 55 #[.val (.ref a1), .val (.int (0 : Int32)), .val (.int tk)] [(.ref a1), (.int (1 : Int32)), (.ref b), (.int (0 : Int32)), (.ref b)])) rfl rfl (hb hby d4_55)
  obtain ⟨T8, h8, L8, X8, e8, N8, K8, Vc8, st8⟩ := cpA X7 hx hZ hown (hw _ (List.mem_of_getElem? (i := 34) rfl)) (hw _ (List.mem_of_getElem? (i := 37) rfl)) (hw _ (List.mem_of_getElem? (i := 35) rfl)) (hw _ (List.mem_of_getElem? (i := 36) rfl)) e7 Vt Vt (us := []) (Or.inl ⟨rfl, rfl⟩) (sp := (0 : Int32)) (dp := (1 : Int32)) (nn := (0 : Int32)) (by first | decide | (show _ ≤ 4; decide)) (by first | decide | (show _ ≤ 4; decide)) (by first | decide | (show _ ≤ 4; decide)) (by first | decide | (show _ ≤ 4; decide)) (by first | decide | (show _ ≤ 4; decide)) rfl (by first | decide | (show _ ≤ 4; decide)) N0 g_b (g := (mkF m 60 #[.val (.ref a1), .val (.int (0 : Int32)), .val (.int tk)] [(.int (0 : Int32)), (.int (1 : Int32)), (.ref b), (.int (0 : Int32)), (.ref b)])) rfl (by rw [hml]; rfl) (rest := []) rfl (hb hby d4_60) (by decide) (W := 0) (by show 2 * 0 + 0 ≤ 0; exact Nat.le_refl _) (by decide)
  have Vd8 : Arv Z h8 b kb .int (4 : Int32) [(.int t0), (.int t1), (.int t2), (.int t3)] (.int (0 : Int32)) := Vc8
  have f9 := E_a1.keep K8
  have f10 := Ft.keep K8 (ninS hne nin0)
  have f11 := Fs.keep K8 (ninS hne nin0)
  have f12 := Ff.keep K8 (ninS hne nin0)
  have f13 := Fi.keep K8 (ninS hne nin0)
  have z14 := Nat.le_trans Z0 K8.1
  have kp15 := Keep.trans (Keep.refl h0 [a1, b]) K8 (allS (Or.inl (List.mem_of_getElem? (i := 1) rfl)) all0)
  obtain ⟨T16, X16, e16, st16⟩ := getF X8 hx hZ hown (host := "") (Or.inl (hw _ (List.mem_of_getElem? (i := 14) rfl))) Via.refl e8 f10 (g := (mkF m 64 #[.val (.ref a1), .val (.int (0 : Int32)), .val (.int tk)] [(.ref a1)])) rfl rfl (hb hby d4_64)
  obtain ⟨clq17, Arq17, cq17, Sq17, nq17, Hq17, Gq17⟩ := id Vd8
  have hiq17 : ¬ ((0 : Int32) < 0 ∨ clq17.slots.size ≤ ((0 : Int32)).toNatClampNeg) := inb_of Sq17 ⟨by decide, by decide⟩
  obtain ⟨T18, h18, X18, e18, W18, st18⟩ := stI X16 hx hZ e16 Arq17 (j := (0 : Int32)) hiq17 (g := (mkF m 69 #[.val (.ref a1), .val (.int (0 : Int32)), .val (.int tk)] [(.int tk), (.int (0 : Int32)), (.ref b)])) rfl rfl (hb hby d4_69)
  have v19 : Arv Z h18 b kb .int (4 : Int32) [(.int tk), (.int t1), (.int t2), (.int t3)] (.int (0 : Int32)) := Arv.set Arq17 cq17 Sq17 nq17 Hq17 Gq17 rfl W18 0 rfl (Nat.le_of_ble_eq_true rfl)
  have f20 := f9.wr W18
  have f21 := f10.other W18 (Or.inl hne)
  have f22 := f11.other W18 (Or.inl hne)
  have f23 := f12.other W18 (Or.inl hne)
  have f24 := f13.other W18 (Or.inl hne)
  have kp25 := kp15.wr W18 (Or.inl (List.mem_of_getElem? (i := 1) rfl))
  have z26 := Nat.le_trans z14 (Keep.of_wr W18).1
  have N27 := Fr.snoc X18 N8 g_b
  obtain ⟨T28, X28, e28, st28⟩ := getF X18 hx hZ hown (host := "") (Or.inl (hw _ (List.mem_of_getElem? (i := 25) rfl))) Via.refl e18 f22 (g := (mkF m 72 #[.val (.ref a1), .val (.int (0 : Int32)), .val (.int tk)] [(.ref a1), (.ref a1)])) rfl rfl (hb hby d4_72)
  obtain ⟨T29, h29, X29, e29, W29, st29⟩ := putF X28 hx hZ hown (host := "") (Or.inl (hw _ (List.mem_of_getElem? (i := 25) rfl))) Via.refl e28 f22 f20 (Or.inl (hw _ (List.mem_of_getElem? (i := 26) rfl))) (hw _ (List.mem_of_getElem? (i := 6) rfl)) (ty := .int) (by decide) rfl rfl (g := (mkF m 77 #[.val (.ref a1), .val (.int (0 : Int32)), .val (.int tk)] [(.int (1 : Int32)), (.ref a1)])) rfl rfl (hb hby d4_77)
  have f30 := f20.wr W29
  have f31 := f21.other W29 (Or.inr (slot_ne (Or.inl (hw _ (List.mem_of_getElem? (i := 15) rfl))) (Or.inl (hw _ (List.mem_of_getElem? (i := 26) rfl))) (by decide) (t := (.array .int)) (t' := .int) (by decide) (by decide)))
  have f32 := f22.same W29
  have f33 := f23.other W29 (Or.inr (slot_ne (Or.inr (hw _ (List.mem_of_getElem? (i := 19) rfl))) (Or.inl (hw _ (List.mem_of_getElem? (i := 26) rfl))) (by decide) (t := (.array .double)) (t' := .int) (by decide) (by decide)))
  have f34 := f24.other W29 (Or.inr (slot_ne (Or.inl (hw _ (List.mem_of_getElem? (i := 33) rfl))) (Or.inl (hw _ (List.mem_of_getElem? (i := 26) rfl))) (by decide) (t := (.object "java/util/NavigableMap")) (t' := .int) (by decide) (by decide)))
  have f35 := v19.other W29 (Ne.symm hne)
  have kp36 := kp25.wr W29 (Or.inl (List.mem_of_getElem? (i := 0) rfl))
  have z37 := Nat.le_trans z26 (Keep.of_wr W29).1
  have N38 := Fr.snoc X29 N27 g_a1
  obtain ⟨fs, hr, hrun, hended, hW, hsame⟩ := X29.leave (v := none) (fun _ => rfl)
  refine ⟨_, _, pre0 _ ?_, hrun, hended, _, _, rfl, ?_, ⟨_, rfl⟩, hW, hsame.mono (by decide) (by decide)⟩
  · show Steps p.tables e below (s₁.setTop (mkF m 0 #[.val (.ref a1), .val (.int (0 : Int32)), .val (.int tk)] [])) _
    refine XS.aloadN X0.here hx rfl (hb hby d4_0) rfl rfl ?_
    show Steps p.tables e below (s₁.setTop (mkF m 1 #[.val (.ref a1), .val (.int (0 : Int32)), .val (.int tk)] [(.ref a1)])) _
    refine st1 _ ?_
    show Steps p.tables e below (T1.setTop (mkF m 4 #[.val (.ref a1), .val (.int (0 : Int32)), .val (.int tk)] [.null])) _
    refine XS.ifnullYes X1.here hx rfl (pc0 := 4) (pc' := 13) rfl (hb hby d4_4) rfl (by decide) (by decide) ?_
    show Steps p.tables e below (T1.setTop (mkF m 13 #[.val (.ref a1), .val (.int (0 : Int32)), .val (.int tk)] [])) _
    refine XS.aloadN X1.here hx rfl (hb hby d4_13) rfl rfl ?_
    show Steps p.tables e below (T1.setTop (mkF m 14 #[.val (.ref a1), .val (.int (0 : Int32)), .val (.int tk)] [(.ref a1)])) _
    refine st2 _ ?_
    show Steps p.tables e below (T2.setTop (mkF m 17 #[.val (.ref a1), .val (.int (0 : Int32)), .val (.int tk)] [(.int (0 : Int32))])) _
    refine XS.aloadN X2.here hx rfl (hb hby d4_17) rfl rfl ?_
    show Steps p.tables e below (T2.setTop (mkF m 18 #[.val (.ref a1), .val (.int (0 : Int32)), .val (.int tk)] [(.ref a1), (.int (0 : Int32))])) _
    refine st3 _ ?_
    show Steps p.tables e below (T3.setTop (mkF m 21 #[.val (.ref a1), .val (.int (0 : Int32)), .val (.int tk)] [(.ref b), (.int (0 : Int32))])) _
    refine X3.arraylength hx (by rw [e3]; exact Arq4.1) (State.isArrayOf_alike hZ.alike Arq4.2.1) (g := (mkF m 21 #[.val (.ref a1), .val (.int (0 : Int32)), .val (.int tk)] [(.ref b), (.int (0 : Int32))])) rfl rfl (hb hby d4_21) _ ?_
    rw [len_of Sq4 nq4]
    show Steps p.tables e below (T3.setTop (mkF m 22 #[.val (.ref a1), .val (.int (0 : Int32)), .val (.int tk)] [(.int (4 : Int32)), (.int (0 : Int32))])) _
    refine XS.icmpYes X3.here hx rfl (pc0 := 22) (pc' := 42) rfl (hb hby d4_22) rfl (feq (by decide : ¬ ((0 : Int32) = (4 : Int32)))).2 (by decide) (by decide) ?_
    show Steps p.tables e below (T3.setTop (mkF m 42 #[.val (.ref a1), .val (.int (0 : Int32)), .val (.int tk)] [])) _
    refine XS.aloadN X3.here hx rfl (hb hby d4_42) rfl rfl ?_
    show Steps p.tables e below (T3.setTop (mkF m 43 #[.val (.ref a1), .val (.int (0 : Int32)), .val (.int tk)] [(.ref a1)])) _
    refine st5 _ ?_
    show Steps p.tables e below (T5.setTop (mkF m 46 #[.val (.ref a1), .val (.int (0 : Int32)), .val (.int tk)] [(.ref b)])) _
    refine XS.iloadN X5.here hx rfl (hb hby d4_46) rfl ?_
    show Steps p.tables e below (T5.setTop (mkF m 47 #[.val (.ref a1), .val (.int (0 : Int32)), .val (.int tk)] [(.int (0 : Int32)), (.ref b)])) _
    refine XS.aloadN X5.here hx rfl (hb hby d4_47) rfl rfl ?_
    show Steps p.tables e below (T5.setTop (mkF m 48 #[.val (.ref a1), .val (.int (0 : Int32)), .val (.int tk)] [(.ref a1), (.int (0 : Int32)), (.ref b)])) _
    refine st6 _ ?_
    show Steps p.tables e below (T6.setTop (mkF m 51 #[.val (.ref a1), .val (.int (0 : Int32)), .val (.int tk)] [(.ref b), (.int (0 : Int32)), (.ref b)])) _
    refine XS.iloadN X6.here hx rfl (hb hby d4_51) rfl ?_
    show Steps p.tables e below (T6.setTop (mkF m 52 #[.val (.ref a1), .val (.int (0 : Int32)), .val (.int tk)] [(.int (0 : Int32)), (.ref b), (.int (0 : Int32)), (.ref b)])) _
    refine XS.iconst X6.here hx rfl (hb hby d4_52) ?_
    show Steps p.tables e below (T6.setTop (mkF m 53 #[.val (.ref a1), .val (.int (0 : Int32)), .val (.int tk)] [(.int (1 : Int32)), (.int (0 : Int32)), (.ref b), (.int (0 : Int32)), (.ref b)])) _
    refine XS.iadd X6.here hx rfl (hb hby d4_53) rfl ?_
    show Steps p.tables e below (T6.setTop (mkF m 54 #[.val (.ref a1), .val (.int (0 : Int32)), .val (.int tk)] [(.int (1 : Int32)), (.ref b), (.int (0 : Int32)), (.ref b)])) _
    refine XS.aloadN X6.here hx rfl (hb hby d4_54) rfl rfl ?_
    show Steps p.tables e below (T6.setTop (mkF m 55 #[.val (.ref a1), .val (.int (0 : Int32)), .val (.int tk)] [(.ref a1), (.int (1 : Int32)), (.ref b), (.int (0 : Int32)), (.ref b)])) _
    refine st7 _ ?_
    show Steps p.tables e below (T7.setTop (mkF m 58 #[.val (.ref a1), .val (.int (0 : Int32)), .val (.int tk)] [(.int (0 : Int32)), (.int (1 : Int32)), (.ref b), (.int (0 : Int32)), (.ref b)])) _
    refine XS.iloadN X7.here hx rfl (hb hby d4_58) rfl ?_
    show Steps p.tables e below (T7.setTop (mkF m 59 #[.val (.ref a1), .val (.int (0 : Int32)), .val (.int tk)] [(.int (0 : Int32)), (.int (0 : Int32)), (.int (1 : Int32)), (.ref b), (.int (0 : Int32)), (.ref b)])) _
    refine XS.isub X7.here hx rfl (hb hby d4_59) rfl ?_
    show Steps p.tables e below (T7.setTop (mkF m 60 #[.val (.ref a1), .val (.int (0 : Int32)), .val (.int tk)] [(.int (0 : Int32)), (.int (1 : Int32)), (.ref b), (.int (0 : Int32)), (.ref b)])) _
    refine st8 _ ?_
    show Steps p.tables e below (T8.setTop (mkF m 63 #[.val (.ref a1), .val (.int (0 : Int32)), .val (.int tk)] [])) _
    refine XS.aloadN X8.here hx rfl (hb hby d4_63) rfl rfl ?_
    show Steps p.tables e below (T8.setTop (mkF m 64 #[.val (.ref a1), .val (.int (0 : Int32)), .val (.int tk)] [(.ref a1)])) _
    refine st16 _ ?_
    show Steps p.tables e below (T16.setTop (mkF m 67 #[.val (.ref a1), .val (.int (0 : Int32)), .val (.int tk)] [(.ref b)])) _
    refine XS.iloadN X16.here hx rfl (hb hby d4_67) rfl ?_
    show Steps p.tables e below (T16.setTop (mkF m 68 #[.val (.ref a1), .val (.int (0 : Int32)), .val (.int tk)] [(.int (0 : Int32)), (.ref b)])) _
    refine XS.iloadN X16.here hx rfl (hb hby d4_68) rfl ?_
    show Steps p.tables e below (T16.setTop (mkF m 69 #[.val (.ref a1), .val (.int (0 : Int32)), .val (.int tk)] [(.int tk), (.int (0 : Int32)), (.ref b)])) _
    refine st18 _ ?_
    show Steps p.tables e below (T18.setTop (mkF m 70 #[.val (.ref a1), .val (.int (0 : Int32)), .val (.int tk)] [])) _
    refine XS.aloadN X18.here hx rfl (hb hby d4_70) rfl rfl ?_
    show Steps p.tables e below (T18.setTop (mkF m 71 #[.val (.ref a1), .val (.int (0 : Int32)), .val (.int tk)] [(.ref a1)])) _
    refine XS.dup X18.here hx rfl (hb hby d4_71) rfl rfl ?_
    show Steps p.tables e below (T18.setTop (mkF m 72 #[.val (.ref a1), .val (.int (0 : Int32)), .val (.int tk)] [(.ref a1), (.ref a1)])) _
    refine st28 _ ?_
    show Steps p.tables e below (T28.setTop (mkF m 75 #[.val (.ref a1), .val (.int (0 : Int32)), .val (.int tk)] [(.int (0 : Int32)), (.ref a1)])) _
    refine XS.iconst X28.here hx rfl (hb hby d4_75) ?_
    show Steps p.tables e below (T28.setTop (mkF m 76 #[.val (.ref a1), .val (.int (0 : Int32)), .val (.int tk)] [(.int (1 : Int32)), (.int (0 : Int32)), (.ref a1)])) _
    refine XS.iadd X28.here hx rfl (hb hby d4_76) rfl ?_
    show Steps p.tables e below (T28.setTop (mkF m 77 #[.val (.ref a1), .val (.int (0 : Int32)), .val (.int tk)] [(.int (1 : Int32)), (.ref a1)])) _
    refine st29 _ ?_
    show Steps p.tables e below (T29.setTop (mkF m 80 #[.val (.ref a1), .val (.int (0 : Int32)), .val (.int tk)] [])) _
    exact X29.returnOut hx Bd.returns (hb hby d4_80) hr
  · show own_QA00 Z a1 b a3 kb tk t0 t1 t2 t3 h0 n0 _ T29.heap _
    rw [e29]
    exact ⟨rfl, N38, kp36, f30, f31, f32, f33, f34, f35⟩
def own_QA11 (Z : State) (a1 b a3 : Addr) (kb : ClassId) (tk t0 t1 t2 t3 : Int32) (h0 : Heap) (n0 : Nat) (v : Option Value) (h : Heap) (L : List Loc) : Prop := v = none ∧ Fr n0 L ∧ Keep h0 h [a1, b] ∧ Exa Z h a1 "com/example/makespun/makespun/simulate/Timeline" ∧ Fld Z h a1 "com/example/makespun/makespun/simulate/Timeline" "tasks" "[I" (.ref b) ∧ Fld Z h a1 "com/example/makespun/makespun/simulate/Timeline" "size" "I" (.int (2 : Int32)) ∧ Fld Z h a1 "com/example/makespun/makespun/simulate/Timeline" "finishes" "[D" (.ref a3) ∧ Fld Z h a1 "com/example/makespun/makespun/simulate/Timeline" "idleIntervals" "Ljava/util/NavigableMap;" .null ∧ Arv Z h b kb .int (4 : Int32) [(.int t0), (.int tk), (.int t2), (.int t3)] (.int (0 : Int32))
set_option maxRecDepth 65536 in
set_option maxHeartbeats 40000000 in
theorem rmA11 (l : Launch) (Z : State) (a0 : Array Value) (hw : ∀ d ∈ tables_1, d.before a0 Z = true) (ws : List Jvm.Cond) (a1 b a3 : Addr) (kb : ClassId) (tk t0 t1 t2 t3 : Int32) (h0 : Heap) (n0 : Nat) (Z0 : n0 ≤ h0.size) (E_a1 : Exa Z h0 a1 "com/example/makespun/makespun/simulate/Timeline") (Ft : Fld Z h0 a1 "com/example/makespun/makespun/simulate/Timeline" "tasks" "[I" (.ref b)) (Fs : Fld Z h0 a1 "com/example/makespun/makespun/simulate/Timeline" "size" "I" (.int (1 : Int32))) (Ff : Fld Z h0 a1 "com/example/makespun/makespun/simulate/Timeline" "finishes" "[D" (.ref a3)) (Fi : Fld Z h0 a1 "com/example/makespun/makespun/simulate/Timeline" "idleIntervals" "Ljava/util/NavigableMap;" .null) (Vt : Arv Z h0 b kb .int (4 : Int32) [(.int t0), (.int t1), (.int t2), (.int t3)] (.int (0 : Int32))) (hne : a1 ≠ b) (g_a1 : n0 ≤ a1) (g_b : n0 ≤ b) :
    MetFree l (⟨"com/example/makespun/makespun/simulate/Timeline", "add", "(II)V"⟩ : MethodName) (head1 (Jvm.Cond.code (⟨"com/example/makespun/makespun/simulate/Timeline", "add", "(II)V"⟩ : MethodName) prog_82_method_7_code 3 none :: ws) ({ frames := 1, cells := 0, slots := 0, locals := 64 } : Room)) (fun a U => a = #[(.ref a1), (.int (1 : Int32)), (.int tk)] ∧ Z.Warmed39 U.vm ∧ U.heap = h0) (fun _ _ _ _ _ => True) (fun _ U o U' => ∃ v L, o = .returned v ∧ own_QA11 Z a1 b a3 kb tk t0 t1 t2 t3 h0 n0 v U'.heap L ∧ FrameEnd U o U' L ({ frames := 1, cells := 0, slots := 0, locals := 64 } : Room).cells ({ frames := 1, cells := 0, slots := 0, locals := 64 } : Room).slots) := by
  refine MetFree.of_bodySF (plainFor_of_name pn_4) hisR ?_
  intro p e s m args below meth c s₁ Bd hml0 hP hK
  obtain ⟨rfl, hZ, hh⟩ := hP
  have hx := Bd.exec
  have hby := Bd.bytes
  have hml : c.maxLocals = 3 := hml0
  have hown : s.vm.findClass "com/example/makespun/makespun/simulate/Timeline" = some m.cls := findClass_of_methodNamed Bd.named
  have hnm := (name_of_methodNamed Bd.named Bd.method).1
  have X0 : Stand p l e ({ frames := 1, cells := 0, slots := 0, locals := 64 } : Room) s m #[(.ref a1), (.int (1 : Int32)), (.int tk)] below meth c s₁ [] 0 0 := Stand.of_body Bd
  have e0 : s₁.heap = h0 := by rw [← hh, Bd.state]; rfl
  have N0 := Fr.nil n0
  have pre0 : ∀ tq, Steps p.tables e below (s₁.setTop (mkF m 0 #[.val (.ref a1), .val (.int (1 : Int32)), .val (.int tk)] [])) tq → Steps p.tables e below (s₁.setTop (entryFrame m #[(.ref a1), (.int (1 : Int32)), (.int tk)] 3)) tq := fun tq k => castTop (ef_4 m a1 (1 : Int32) tk) k
  obtain ⟨T1, X1, e1, st1⟩ := getF X0 hx hZ hown (host := "") (Or.inl (hw _ (List.mem_of_getElem? (i := 32) rfl))) Via.refl e0 Fi (g := (mkF m 1 #[.val (.ref a1), .val (.int (1 : Int32)), .val (.int tk)] [(.ref a1)])) rfl rfl (hb hby d4_1)
  obtain ⟨T2, X2, e2, st2⟩ := getF X1 hx hZ hown (host := "") (Or.inl (hw _ (List.mem_of_getElem? (i := 25) rfl))) Via.refl e1 Fs (g := (mkF m 14 #[.val (.ref a1), .val (.int (1 : Int32)), .val (.int tk)] [(.ref a1)])) rfl rfl (hb hby d4_14)
  obtain ⟨T3, X3, e3, st3⟩ := getF X2 hx hZ hown (host := "") (Or.inl (hw _ (List.mem_of_getElem? (i := 14) rfl))) Via.refl e2 Ft (g := (mkF m 18 #[.val (.ref a1), .val (.int (1 : Int32)), .val (.int tk)] [(.ref a1), (.int (1 : Int32))])) rfl rfl (hb hby d4_18)
  obtain ⟨clq4, Arq4, cq4, Sq4, nq4, Hq4, Gq4⟩ := id Vt
  obtain ⟨T5, X5, e5, st5⟩ := getF X3 hx hZ hown (host := "") (Or.inl (hw _ (List.mem_of_getElem? (i := 14) rfl))) Via.refl e3 Ft (g := (mkF m 43 #[.val (.ref a1), .val (.int (1 : Int32)), .val (.int tk)] [(.ref a1)])) rfl rfl (hb hby d4_43)
  obtain ⟨T6, X6, e6, st6⟩ := getF X5 hx hZ hown (host := "") (Or.inl (hw _ (List.mem_of_getElem? (i := 14) rfl))) Via.refl e5 Ft (g := (mkF m 48 #[.val (.ref a1), .val (.int (1 : Int32)), .val (.int tk)] [(.ref a1), (.int (1 : Int32)), (.ref b)])) rfl rfl (hb hby d4_48)
  obtain ⟨T7, X7, e7, st7⟩ := getF X6 hx hZ hown (host := "") (Or.inl (hw _ (List.mem_of_getElem? (i := 25) rfl))) Via.refl e6 Fs (g := (mkF m 55 #[.val (.ref a1), .val (.int (1 : Int32)), .val (.int tk)] [(.ref a1), (.int (2 : Int32)), (.ref b), (.int (1 : Int32)), (.ref b)])) rfl rfl (hb hby d4_55)
  obtain ⟨T8, h8, L8, X8, e8, N8, K8, Vc8, st8⟩ := cpA X7 hx hZ hown (hw _ (List.mem_of_getElem? (i := 34) rfl)) (hw _ (List.mem_of_getElem? (i := 37) rfl)) (hw _ (List.mem_of_getElem? (i := 35) rfl)) (hw _ (List.mem_of_getElem? (i := 36) rfl)) e7 Vt Vt (us := []) (Or.inl ⟨rfl, rfl⟩) (sp := (1 : Int32)) (dp := (2 : Int32)) (nn := (0 : Int32)) (by first | decide | (show _ ≤ 4; decide)) (by first | decide | (show _ ≤ 4; decide)) (by first | decide | (show _ ≤ 4; decide)) (by first | decide | (show _ ≤ 4; decide)) (by first | decide | (show _ ≤ 4; decide)) rfl (by first | decide | (show _ ≤ 4; decide)) N0 g_b (g := (mkF m 60 #[.val (.ref a1), .val (.int (1 : Int32)), .val (.int tk)] [(.int (0 : Int32)), (.int (2 : Int32)), (.ref b), (.int (1 : Int32)), (.ref b)])) rfl (by rw [hml]; rfl) (rest := []) rfl (hb hby d4_60) (by decide) (W := 0) (by show 2 * 0 + 0 ≤ 0; exact Nat.le_refl _) (by decide)
  have Vd8 : Arv Z h8 b kb .int (4 : Int32) [(.int t0), (.int t1), (.int t2), (.int t3)] (.int (0 : Int32)) := Vc8
  have f9 := E_a1.keep K8
  have f10 := Ft.keep K8 (ninS hne nin0)
  have f11 := Fs.keep K8 (ninS hne nin0)
  have f12 := Ff.keep K8 (ninS hne nin0)
  have f13 := Fi.keep K8 (ninS hne nin0)
  have z14 := Nat.le_trans Z0 K8.1
  have kp15 := Keep.trans (Keep.refl h0 [a1, b]) K8 (allS (Or.inl (List.mem_of_getElem? (i := 1) rfl)) all0)
  obtain ⟨T16, X16, e16, st16⟩ := getF X8 hx hZ hown (host := "") (Or.inl (hw _ (List.mem_of_getElem? (i := 14) rfl))) Via.refl e8 f10 (g := (mkF m 64 #[.val (.ref a1), .val (.int (1 : Int32)), .val (.int tk)] [(.ref a1)])) rfl rfl (hb hby d4_64)
  obtain ⟨clq17, Arq17, cq17, Sq17, nq17, Hq17, Gq17⟩ := id Vd8
  have hiq17 : ¬ ((1 : Int32) < 0 ∨ clq17.slots.size ≤ ((1 : Int32)).toNatClampNeg) := inb_of Sq17 ⟨by decide, by decide⟩
  obtain ⟨T18, h18, X18, e18, W18, st18⟩ := stI X16 hx hZ e16 Arq17 (j := (1 : Int32)) hiq17 (g := (mkF m 69 #[.val (.ref a1), .val (.int (1 : Int32)), .val (.int tk)] [(.int tk), (.int (1 : Int32)), (.ref b)])) rfl rfl (hb hby d4_69)
  have v19 : Arv Z h18 b kb .int (4 : Int32) [(.int t0), (.int tk), (.int t2), (.int t3)] (.int (0 : Int32)) := Arv.set Arq17 cq17 Sq17 nq17 Hq17 Gq17 rfl W18 1 rfl (Nat.le_of_ble_eq_true rfl)
  have f20 := f9.wr W18
  have f21 := f10.other W18 (Or.inl hne)
  have f22 := f11.other W18 (Or.inl hne)
  have f23 := f12.other W18 (Or.inl hne)
  have f24 := f13.other W18 (Or.inl hne)
  have kp25 := kp15.wr W18 (Or.inl (List.mem_of_getElem? (i := 1) rfl))
  have z26 := Nat.le_trans z14 (Keep.of_wr W18).1
  have N27 := Fr.snoc X18 N8 g_b
  obtain ⟨T28, X28, e28, st28⟩ := getF X18 hx hZ hown (host := "") (Or.inl (hw _ (List.mem_of_getElem? (i := 25) rfl))) Via.refl e18 f22 (g := (mkF m 72 #[.val (.ref a1), .val (.int (1 : Int32)), .val (.int tk)] [(.ref a1), (.ref a1)])) rfl rfl (hb hby d4_72)
  obtain ⟨T29, h29, X29, e29, W29, st29⟩ := putF X28 hx hZ hown (host := "") (Or.inl (hw _ (List.mem_of_getElem? (i := 25) rfl))) Via.refl e28 f22 f20 (Or.inl (hw _ (List.mem_of_getElem? (i := 26) rfl))) (hw _ (List.mem_of_getElem? (i := 6) rfl)) (ty := .int) (by decide) rfl rfl (g := (mkF m 77 #[.val (.ref a1), .val (.int (1 : Int32)), .val (.int tk)] [(.int (2 : Int32)), (.ref a1)])) rfl rfl (hb hby d4_77)
  have f30 := f20.wr W29
  have f31 := f21.other W29 (Or.inr (slot_ne (Or.inl (hw _ (List.mem_of_getElem? (i := 15) rfl))) (Or.inl (hw _ (List.mem_of_getElem? (i := 26) rfl))) (by decide) (t := (.array .int)) (t' := .int) (by decide) (by decide)))
  have f32 := f22.same W29
  have f33 := f23.other W29 (Or.inr (slot_ne (Or.inr (hw _ (List.mem_of_getElem? (i := 19) rfl))) (Or.inl (hw _ (List.mem_of_getElem? (i := 26) rfl))) (by decide) (t := (.array .double)) (t' := .int) (by decide) (by decide)))
  have f34 := f24.other W29 (Or.inr (slot_ne (Or.inl (hw _ (List.mem_of_getElem? (i := 33) rfl))) (Or.inl (hw _ (List.mem_of_getElem? (i := 26) rfl))) (by decide) (t := (.object "java/util/NavigableMap")) (t' := .int) (by decide) (by decide)))
  have f35 := v19.other W29 (Ne.symm hne)
  have kp36 := kp25.wr W29 (Or.inl (List.mem_of_getElem? (i := 0) rfl))
  have z37 := Nat.le_trans z26 (Keep.of_wr W29).1
  have N38 := Fr.snoc X29 N27 g_a1
  obtain ⟨fs, hr, hrun, hended, hW, hsame⟩ := X29.leave (v := none) (fun _ => rfl)
  refine ⟨_, _, pre0 _ ?_, hrun, hended, _, _, rfl, ?_, ⟨_, rfl⟩, hW, hsame.mono (by decide) (by decide)⟩
  · show Steps p.tables e below (s₁.setTop (mkF m 0 #[.val (.ref a1), .val (.int (1 : Int32)), .val (.int tk)] [])) _
    refine XS.aloadN X0.here hx rfl (hb hby d4_0) rfl rfl ?_
    show Steps p.tables e below (s₁.setTop (mkF m 1 #[.val (.ref a1), .val (.int (1 : Int32)), .val (.int tk)] [(.ref a1)])) _
    refine st1 _ ?_
    show Steps p.tables e below (T1.setTop (mkF m 4 #[.val (.ref a1), .val (.int (1 : Int32)), .val (.int tk)] [.null])) _
    refine XS.ifnullYes X1.here hx rfl (pc0 := 4) (pc' := 13) rfl (hb hby d4_4) rfl (by decide) (by decide) ?_
    show Steps p.tables e below (T1.setTop (mkF m 13 #[.val (.ref a1), .val (.int (1 : Int32)), .val (.int tk)] [])) _
    refine XS.aloadN X1.here hx rfl (hb hby d4_13) rfl rfl ?_
    show Steps p.tables e below (T1.setTop (mkF m 14 #[.val (.ref a1), .val (.int (1 : Int32)), .val (.int tk)] [(.ref a1)])) _
    refine st2 _ ?_
    show Steps p.tables e below (T2.setTop (mkF m 17 #[.val (.ref a1), .val (.int (1 : Int32)), .val (.int tk)] [(.int (1 : Int32))])) _
    refine XS.aloadN X2.here hx rfl (hb hby d4_17) rfl rfl ?_
    show Steps p.tables e below (T2.setTop (mkF m 18 #[.val (.ref a1), .val (.int (1 : Int32)), .val (.int tk)] [(.ref a1), (.int (1 : Int32))])) _
    refine st3 _ ?_
    show Steps p.tables e below (T3.setTop (mkF m 21 #[.val (.ref a1), .val (.int (1 : Int32)), .val (.int tk)] [(.ref b), (.int (1 : Int32))])) _
    refine X3.arraylength hx (by rw [e3]; exact Arq4.1) (State.isArrayOf_alike hZ.alike Arq4.2.1) (g := (mkF m 21 #[.val (.ref a1), .val (.int (1 : Int32)), .val (.int tk)] [(.ref b), (.int (1 : Int32))])) rfl rfl (hb hby d4_21) _ ?_
    rw [len_of Sq4 nq4]
    show Steps p.tables e below (T3.setTop (mkF m 22 #[.val (.ref a1), .val (.int (1 : Int32)), .val (.int tk)] [(.int (4 : Int32)), (.int (1 : Int32))])) _
    refine XS.icmpYes X3.here hx rfl (pc0 := 22) (pc' := 42) rfl (hb hby d4_22) rfl (feq (by decide : ¬ ((1 : Int32) = (4 : Int32)))).2 (by decide) (by decide) ?_
    show Steps p.tables e below (T3.setTop (mkF m 42 #[.val (.ref a1), .val (.int (1 : Int32)), .val (.int tk)] [])) _
    refine XS.aloadN X3.here hx rfl (hb hby d4_42) rfl rfl ?_
    show Steps p.tables e below (T3.setTop (mkF m 43 #[.val (.ref a1), .val (.int (1 : Int32)), .val (.int tk)] [(.ref a1)])) _
    refine st5 _ ?_
    show Steps p.tables e below (T5.setTop (mkF m 46 #[.val (.ref a1), .val (.int (1 : Int32)), .val (.int tk)] [(.ref b)])) _
    refine XS.iloadN X5.here hx rfl (hb hby d4_46) rfl ?_
    show Steps p.tables e below (T5.setTop (mkF m 47 #[.val (.ref a1), .val (.int (1 : Int32)), .val (.int tk)] [(.int (1 : Int32)), (.ref b)])) _
    refine XS.aloadN X5.here hx rfl (hb hby d4_47) rfl rfl ?_
    show Steps p.tables e below (T5.setTop (mkF m 48 #[.val (.ref a1), .val (.int (1 : Int32)), .val (.int tk)] [(.ref a1), (.int (1 : Int32)), (.ref b)])) _
    refine st6 _ ?_
    show Steps p.tables e below (T6.setTop (mkF m 51 #[.val (.ref a1), .val (.int (1 : Int32)), .val (.int tk)] [(.ref b), (.int (1 : Int32)), (.ref b)])) _
    refine XS.iloadN X6.here hx rfl (hb hby d4_51) rfl ?_
    show Steps p.tables e below (T6.setTop (mkF m 52 #[.val (.ref a1), .val (.int (1 : Int32)), .val (.int tk)] [(.int (1 : Int32)), (.ref b), (.int (1 : Int32)), (.ref b)])) _
    refine XS.iconst X6.here hx rfl (hb hby d4_52) ?_
    show Steps p.tables e below (T6.setTop (mkF m 53 #[.val (.ref a1), .val (.int (1 : Int32)), .val (.int tk)] [(.int (1 : Int32)), (.int (1 : Int32)), (.ref b), (.int (1 : Int32)), (.ref b)])) _
    refine XS.iadd X6.here hx rfl (hb hby d4_53) rfl ?_
    show Steps p.tables e below (T6.setTop (mkF m 54 #[.val (.ref a1), .val (.int (1 : Int32)), .val (.int tk)] [(.int (2 : Int32)), (.ref b), (.int (1 : Int32)), (.ref b)])) _
    refine XS.aloadN X6.here hx rfl (hb hby d4_54) rfl rfl ?_
    show Steps p.tables e below (T6.setTop (mkF m 55 #[.val (.ref a1), .val (.int (1 : Int32)), .val (.int tk)] [(.ref a1), (.int (2 : Int32)), (.ref b), (.int (1 : Int32)), (.ref b)])) _
    refine st7 _ ?_
    show Steps p.tables e below (T7.setTop (mkF m 58 #[.val (.ref a1), .val (.int (1 : Int32)), .val (.int tk)] [(.int (1 : Int32)), (.int (2 : Int32)), (.ref b), (.int (1 : Int32)), (.ref b)])) _
    refine XS.iloadN X7.here hx rfl (hb hby d4_58) rfl ?_
    show Steps p.tables e below (T7.setTop (mkF m 59 #[.val (.ref a1), .val (.int (1 : Int32)), .val (.int tk)] [(.int (1 : Int32)), (.int (1 : Int32)), (.int (2 : Int32)), (.ref b), (.int (1 : Int32)), (.ref b)])) _
    refine XS.isub X7.here hx rfl (hb hby d4_59) rfl ?_
    show Steps p.tables e below (T7.setTop (mkF m 60 #[.val (.ref a1), .val (.int (1 : Int32)), .val (.int tk)] [(.int (0 : Int32)), (.int (2 : Int32)), (.ref b), (.int (1 : Int32)), (.ref b)])) _
    refine st8 _ ?_
    show Steps p.tables e below (T8.setTop (mkF m 63 #[.val (.ref a1), .val (.int (1 : Int32)), .val (.int tk)] [])) _
    refine XS.aloadN X8.here hx rfl (hb hby d4_63) rfl rfl ?_
    show Steps p.tables e below (T8.setTop (mkF m 64 #[.val (.ref a1), .val (.int (1 : Int32)), .val (.int tk)] [(.ref a1)])) _
    refine st16 _ ?_
    show Steps p.tables e below (T16.setTop (mkF m 67 #[.val (.ref a1), .val (.int (1 : Int32)), .val (.int tk)] [(.ref b)])) _
    refine XS.iloadN X16.here hx rfl (hb hby d4_67) rfl ?_
    show Steps p.tables e below (T16.setTop (mkF m 68 #[.val (.ref a1), .val (.int (1 : Int32)), .val (.int tk)] [(.int (1 : Int32)), (.ref b)])) _
    refine XS.iloadN X16.here hx rfl (hb hby d4_68) rfl ?_
    show Steps p.tables e below (T16.setTop (mkF m 69 #[.val (.ref a1), .val (.int (1 : Int32)), .val (.int tk)] [(.int tk), (.int (1 : Int32)), (.ref b)])) _
    refine st18 _ ?_
    show Steps p.tables e below (T18.setTop (mkF m 70 #[.val (.ref a1), .val (.int (1 : Int32)), .val (.int tk)] [])) _
    refine XS.aloadN X18.here hx rfl (hb hby d4_70) rfl rfl ?_
    show Steps p.tables e below (T18.setTop (mkF m 71 #[.val (.ref a1), .val (.int (1 : Int32)), .val (.int tk)] [(.ref a1)])) _
    refine XS.dup X18.here hx rfl (hb hby d4_71) rfl rfl ?_
    show Steps p.tables e below (T18.setTop (mkF m 72 #[.val (.ref a1), .val (.int (1 : Int32)), .val (.int tk)] [(.ref a1), (.ref a1)])) _
    refine st28 _ ?_
    show Steps p.tables e below (T28.setTop (mkF m 75 #[.val (.ref a1), .val (.int (1 : Int32)), .val (.int tk)] [(.int (1 : Int32)), (.ref a1)])) _
    refine XS.iconst X28.here hx rfl (hb hby d4_75) ?_
    show Steps p.tables e below (T28.setTop (mkF m 76 #[.val (.ref a1), .val (.int (1 : Int32)), .val (.int tk)] [(.int (1 : Int32)), (.int (1 : Int32)), (.ref a1)])) _
    refine XS.iadd X28.here hx rfl (hb hby d4_76) rfl ?_
    show Steps p.tables e below (T28.setTop (mkF m 77 #[.val (.ref a1), .val (.int (1 : Int32)), .val (.int tk)] [(.int (2 : Int32)), (.ref a1)])) _
    refine st29 _ ?_
    show Steps p.tables e below (T29.setTop (mkF m 80 #[.val (.ref a1), .val (.int (1 : Int32)), .val (.int tk)] [])) _
    exact X29.returnOut hx Bd.returns (hb hby d4_80) hr
  · show own_QA11 Z a1 b a3 kb tk t0 t1 t2 t3 h0 n0 _ T29.heap _
    rw [e29]
    exact ⟨rfl, N38, kp36, f30, f31, f32, f33, f34, f35⟩
def own_QA01 (Z : State) (a1 b a3 : Addr) (kb : ClassId) (tk t0 t1 t2 t3 : Int32) (h0 : Heap) (n0 : Nat) (v : Option Value) (h : Heap) (L : List Loc) : Prop := v = none ∧ Fr n0 L ∧ Keep h0 h [a1, b] ∧ Exa Z h a1 "com/example/makespun/makespun/simulate/Timeline" ∧ Fld Z h a1 "com/example/makespun/makespun/simulate/Timeline" "tasks" "[I" (.ref b) ∧ Fld Z h a1 "com/example/makespun/makespun/simulate/Timeline" "size" "I" (.int (2 : Int32)) ∧ Fld Z h a1 "com/example/makespun/makespun/simulate/Timeline" "finishes" "[D" (.ref a3) ∧ Fld Z h a1 "com/example/makespun/makespun/simulate/Timeline" "idleIntervals" "Ljava/util/NavigableMap;" .null ∧ Arv Z h b kb .int (4 : Int32) [(.int tk), (.int t0), (.int t2), (.int t3)] (.int (0 : Int32))
set_option maxRecDepth 65536 in
set_option maxHeartbeats 40000000 in
theorem rmA01 (l : Launch) (Z : State) (a0 : Array Value) (hw : ∀ d ∈ tables_1, d.before a0 Z = true) (ws : List Jvm.Cond) (a1 b a3 : Addr) (kb : ClassId) (tk t0 t1 t2 t3 : Int32) (h0 : Heap) (n0 : Nat) (Z0 : n0 ≤ h0.size) (E_a1 : Exa Z h0 a1 "com/example/makespun/makespun/simulate/Timeline") (Ft : Fld Z h0 a1 "com/example/makespun/makespun/simulate/Timeline" "tasks" "[I" (.ref b)) (Fs : Fld Z h0 a1 "com/example/makespun/makespun/simulate/Timeline" "size" "I" (.int (1 : Int32))) (Ff : Fld Z h0 a1 "com/example/makespun/makespun/simulate/Timeline" "finishes" "[D" (.ref a3)) (Fi : Fld Z h0 a1 "com/example/makespun/makespun/simulate/Timeline" "idleIntervals" "Ljava/util/NavigableMap;" .null) (Vt : Arv Z h0 b kb .int (4 : Int32) [(.int t0), (.int t1), (.int t2), (.int t3)] (.int (0 : Int32))) (hne : a1 ≠ b) (g_a1 : n0 ≤ a1) (g_b : n0 ≤ b) :
    MetFree l (⟨"com/example/makespun/makespun/simulate/Timeline", "add", "(II)V"⟩ : MethodName) (head1 (Jvm.Cond.code (⟨"com/example/makespun/makespun/simulate/Timeline", "add", "(II)V"⟩ : MethodName) prog_82_method_7_code 3 none :: ws) ({ frames := 1, cells := 0, slots := 0, locals := 64 } : Room)) (fun a U => a = #[(.ref a1), (.int (0 : Int32)), (.int tk)] ∧ Z.Warmed39 U.vm ∧ U.heap = h0) (fun _ _ _ _ _ => True) (fun _ U o U' => ∃ v L, o = .returned v ∧ own_QA01 Z a1 b a3 kb tk t0 t1 t2 t3 h0 n0 v U'.heap L ∧ FrameEnd U o U' L ({ frames := 1, cells := 0, slots := 0, locals := 64 } : Room).cells ({ frames := 1, cells := 0, slots := 0, locals := 64 } : Room).slots) := by
  refine MetFree.of_bodySF (plainFor_of_name pn_4) hisR ?_
  intro p e s m args below meth c s₁ Bd hml0 hP hK
  obtain ⟨rfl, hZ, hh⟩ := hP
  have hx := Bd.exec
  have hby := Bd.bytes
  have hml : c.maxLocals = 3 := hml0
  have hown : s.vm.findClass "com/example/makespun/makespun/simulate/Timeline" = some m.cls := findClass_of_methodNamed Bd.named
  have hnm := (name_of_methodNamed Bd.named Bd.method).1
  have X0 : Stand p l e ({ frames := 1, cells := 0, slots := 0, locals := 64 } : Room) s m #[(.ref a1), (.int (0 : Int32)), (.int tk)] below meth c s₁ [] 0 0 := Stand.of_body Bd
  have e0 : s₁.heap = h0 := by rw [← hh, Bd.state]; rfl
  have N0 := Fr.nil n0
  have pre0 : ∀ tq, Steps p.tables e below (s₁.setTop (mkF m 0 #[.val (.ref a1), .val (.int (0 : Int32)), .val (.int tk)] [])) tq → Steps p.tables e below (s₁.setTop (entryFrame m #[(.ref a1), (.int (0 : Int32)), (.int tk)] 3)) tq := fun tq k => castTop (ef_4 m a1 (0 : Int32) tk) k
  obtain ⟨T1, X1, e1, st1⟩ := getF X0 hx hZ hown (host := "") (Or.inl (hw _ (List.mem_of_getElem? (i := 32) rfl))) Via.refl e0 Fi (g := (mkF m 1 #[.val (.ref a1), .val (.int (0 : Int32)), .val (.int tk)] [(.ref a1)])) rfl rfl (hb hby d4_1)
  obtain ⟨T2, X2, e2, st2⟩ := getF X1 hx hZ hown (host := "") (Or.inl (hw _ (List.mem_of_getElem? (i := 25) rfl))) Via.refl e1 Fs (g := (mkF m 14 #[.val (.ref a1), .val (.int (0 : Int32)), .val (.int tk)] [(.ref a1)])) rfl rfl (hb hby d4_14)
  obtain ⟨T3, X3, e3, st3⟩ := getF X2 hx hZ hown (host := "") (Or.inl (hw _ (List.mem_of_getElem? (i := 14) rfl))) Via.refl e2 Ft (g := (mkF m 18 #[.val (.ref a1), .val (.int (0 : Int32)), .val (.int tk)] [(.ref a1), (.int (1 : Int32))])) rfl rfl (hb hby d4_18)
  obtain ⟨clq4, Arq4, cq4, Sq4, nq4, Hq4, Gq4⟩ := id Vt
  obtain ⟨T5, X5, e5, st5⟩ := getF X3 hx hZ hown (host := "") (Or.inl (hw _ (List.mem_of_getElem? (i := 14) rfl))) Via.refl e3 Ft (g := (mkF m 43 #[.val (.ref a1), .val (.int (0 : Int32)), .val (.int tk)] [(.ref a1)])) rfl rfl (hb hby d4_43)
  obtain ⟨T6, X6, e6, st6⟩ := getF X5 hx hZ hown (host := "") (Or.inl (hw _ (List.mem_of_getElem? (i := 14) rfl))) Via.refl e5 Ft (g := (mkF m 48 #[.val (.ref a1), .val (.int (0 : Int32)), .val (.int tk)] [(.ref a1), (.int (0 : Int32)), (.ref b)])) rfl rfl (hb hby d4_48)
  obtain ⟨T7, X7, e7, st7⟩ := getF X6 hx hZ hown (host := "") (Or.inl (hw _ (List.mem_of_getElem? (i := 25) rfl))) Via.refl e6 Fs (g := (mkF m 55 #[.val (.ref a1), .val (.int (0 : Int32)), .val (.int tk)] [(.ref a1), (.int (1 : Int32)), (.ref b), (.int (0 : Int32)), (.ref b)])) rfl rfl (hb hby d4_55)
  obtain ⟨T8, h8, L8, X8, e8, N8, K8, Vc8, st8⟩ := cpA X7 hx hZ hown (hw _ (List.mem_of_getElem? (i := 34) rfl)) (hw _ (List.mem_of_getElem? (i := 37) rfl)) (hw _ (List.mem_of_getElem? (i := 35) rfl)) (hw _ (List.mem_of_getElem? (i := 36) rfl)) e7 Vt Vt (us := [(.int t0)]) (Or.inl ⟨rfl, rfl⟩) (sp := (0 : Int32)) (dp := (1 : Int32)) (nn := (1 : Int32)) (by first | decide | (show _ ≤ 4; decide)) (by first | decide | (show _ ≤ 4; decide)) (by first | decide | (show _ ≤ 4; decide)) (by first | decide | (show _ ≤ 4; decide)) (by first | decide | (show _ ≤ 4; decide)) rfl (by first | decide | (show _ ≤ 4; decide)) N0 g_b (g := (mkF m 60 #[.val (.ref a1), .val (.int (0 : Int32)), .val (.int tk)] [(.int (1 : Int32)), (.int (1 : Int32)), (.ref b), (.int (0 : Int32)), (.ref b)])) rfl (by rw [hml]; rfl) (rest := []) rfl (hb hby d4_60) (by decide) (W := 0) (by show 2 * 0 + 0 ≤ 0; exact Nat.le_refl _) (by decide)
  have Vd8 : Arv Z h8 b kb .int (4 : Int32) [(.int t0), (.int t0), (.int t2), (.int t3)] (.int (0 : Int32)) := Vc8
  have f9 := E_a1.keep K8
  have f10 := Ft.keep K8 (ninS hne nin0)
  have f11 := Fs.keep K8 (ninS hne nin0)
  have f12 := Ff.keep K8 (ninS hne nin0)
  have f13 := Fi.keep K8 (ninS hne nin0)
  have z14 := Nat.le_trans Z0 K8.1
  have kp15 := Keep.trans (Keep.refl h0 [a1, b]) K8 (allS (Or.inl (List.mem_of_getElem? (i := 1) rfl)) all0)
  obtain ⟨T16, X16, e16, st16⟩ := getF X8 hx hZ hown (host := "") (Or.inl (hw _ (List.mem_of_getElem? (i := 14) rfl))) Via.refl e8 f10 (g := (mkF m 64 #[.val (.ref a1), .val (.int (0 : Int32)), .val (.int tk)] [(.ref a1)])) rfl rfl (hb hby d4_64)
  obtain ⟨clq17, Arq17, cq17, Sq17, nq17, Hq17, Gq17⟩ := id Vd8
  have hiq17 : ¬ ((0 : Int32) < 0 ∨ clq17.slots.size ≤ ((0 : Int32)).toNatClampNeg) := inb_of Sq17 ⟨by decide, by decide⟩
  obtain ⟨T18, h18, X18, e18, W18, st18⟩ := stI X16 hx hZ e16 Arq17 (j := (0 : Int32)) hiq17 (g := (mkF m 69 #[.val (.ref a1), .val (.int (0 : Int32)), .val (.int tk)] [(.int tk), (.int (0 : Int32)), (.ref b)])) rfl rfl (hb hby d4_69)
  have v19 : Arv Z h18 b kb .int (4 : Int32) [(.int tk), (.int t0), (.int t2), (.int t3)] (.int (0 : Int32)) := Arv.set Arq17 cq17 Sq17 nq17 Hq17 Gq17 rfl W18 0 rfl (Nat.le_of_ble_eq_true rfl)
  have f20 := f9.wr W18
  have f21 := f10.other W18 (Or.inl hne)
  have f22 := f11.other W18 (Or.inl hne)
  have f23 := f12.other W18 (Or.inl hne)
  have f24 := f13.other W18 (Or.inl hne)
  have kp25 := kp15.wr W18 (Or.inl (List.mem_of_getElem? (i := 1) rfl))
  have z26 := Nat.le_trans z14 (Keep.of_wr W18).1
  have N27 := Fr.snoc X18 N8 g_b
  obtain ⟨T28, X28, e28, st28⟩ := getF X18 hx hZ hown (host := "") (Or.inl (hw _ (List.mem_of_getElem? (i := 25) rfl))) Via.refl e18 f22 (g := (mkF m 72 #[.val (.ref a1), .val (.int (0 : Int32)), .val (.int tk)] [(.ref a1), (.ref a1)])) rfl rfl (hb hby d4_72)
  obtain ⟨T29, h29, X29, e29, W29, st29⟩ := putF X28 hx hZ hown (host := "") (Or.inl (hw _ (List.mem_of_getElem? (i := 25) rfl))) Via.refl e28 f22 f20 (Or.inl (hw _ (List.mem_of_getElem? (i := 26) rfl))) (hw _ (List.mem_of_getElem? (i := 6) rfl)) (ty := .int) (by decide) rfl rfl (g := (mkF m 77 #[.val (.ref a1), .val (.int (0 : Int32)), .val (.int tk)] [(.int (2 : Int32)), (.ref a1)])) rfl rfl (hb hby d4_77)
  have f30 := f20.wr W29
  have f31 := f21.other W29 (Or.inr (slot_ne (Or.inl (hw _ (List.mem_of_getElem? (i := 15) rfl))) (Or.inl (hw _ (List.mem_of_getElem? (i := 26) rfl))) (by decide) (t := (.array .int)) (t' := .int) (by decide) (by decide)))
  have f32 := f22.same W29
  have f33 := f23.other W29 (Or.inr (slot_ne (Or.inr (hw _ (List.mem_of_getElem? (i := 19) rfl))) (Or.inl (hw _ (List.mem_of_getElem? (i := 26) rfl))) (by decide) (t := (.array .double)) (t' := .int) (by decide) (by decide)))
  have f34 := f24.other W29 (Or.inr (slot_ne (Or.inl (hw _ (List.mem_of_getElem? (i := 33) rfl))) (Or.inl (hw _ (List.mem_of_getElem? (i := 26) rfl))) (by decide) (t := (.object "java/util/NavigableMap")) (t' := .int) (by decide) (by decide)))
  have f35 := v19.other W29 (Ne.symm hne)
  have kp36 := kp25.wr W29 (Or.inl (List.mem_of_getElem? (i := 0) rfl))
  have z37 := Nat.le_trans z26 (Keep.of_wr W29).1
  have N38 := Fr.snoc X29 N27 g_a1
  obtain ⟨fs, hr, hrun, hended, hW, hsame⟩ := X29.leave (v := none) (fun _ => rfl)
  refine ⟨_, _, pre0 _ ?_, hrun, hended, _, _, rfl, ?_, ⟨_, rfl⟩, hW, hsame.mono (by decide) (by decide)⟩
  · show Steps p.tables e below (s₁.setTop (mkF m 0 #[.val (.ref a1), .val (.int (0 : Int32)), .val (.int tk)] [])) _
    refine XS.aloadN X0.here hx rfl (hb hby d4_0) rfl rfl ?_
    show Steps p.tables e below (s₁.setTop (mkF m 1 #[.val (.ref a1), .val (.int (0 : Int32)), .val (.int tk)] [(.ref a1)])) _
    refine st1 _ ?_
    show Steps p.tables e below (T1.setTop (mkF m 4 #[.val (.ref a1), .val (.int (0 : Int32)), .val (.int tk)] [.null])) _
    refine XS.ifnullYes X1.here hx rfl (pc0 := 4) (pc' := 13) rfl (hb hby d4_4) rfl (by decide) (by decide) ?_
    show Steps p.tables e below (T1.setTop (mkF m 13 #[.val (.ref a1), .val (.int (0 : Int32)), .val (.int tk)] [])) _
    refine XS.aloadN X1.here hx rfl (hb hby d4_13) rfl rfl ?_
    show Steps p.tables e below (T1.setTop (mkF m 14 #[.val (.ref a1), .val (.int (0 : Int32)), .val (.int tk)] [(.ref a1)])) _
    refine st2 _ ?_
    show Steps p.tables e below (T2.setTop (mkF m 17 #[.val (.ref a1), .val (.int (0 : Int32)), .val (.int tk)] [(.int (1 : Int32))])) _
    refine XS.aloadN X2.here hx rfl (hb hby d4_17) rfl rfl ?_
    show Steps p.tables e below (T2.setTop (mkF m 18 #[.val (.ref a1), .val (.int (0 : Int32)), .val (.int tk)] [(.ref a1), (.int (1 : Int32))])) _
    refine st3 _ ?_
    show Steps p.tables e below (T3.setTop (mkF m 21 #[.val (.ref a1), .val (.int (0 : Int32)), .val (.int tk)] [(.ref b), (.int (1 : Int32))])) _
    refine X3.arraylength hx (by rw [e3]; exact Arq4.1) (State.isArrayOf_alike hZ.alike Arq4.2.1) (g := (mkF m 21 #[.val (.ref a1), .val (.int (0 : Int32)), .val (.int tk)] [(.ref b), (.int (1 : Int32))])) rfl rfl (hb hby d4_21) _ ?_
    rw [len_of Sq4 nq4]
    show Steps p.tables e below (T3.setTop (mkF m 22 #[.val (.ref a1), .val (.int (0 : Int32)), .val (.int tk)] [(.int (4 : Int32)), (.int (1 : Int32))])) _
    refine XS.icmpYes X3.here hx rfl (pc0 := 22) (pc' := 42) rfl (hb hby d4_22) rfl (feq (by decide : ¬ ((1 : Int32) = (4 : Int32)))).2 (by decide) (by decide) ?_
    show Steps p.tables e below (T3.setTop (mkF m 42 #[.val (.ref a1), .val (.int (0 : Int32)), .val (.int tk)] [])) _
    refine XS.aloadN X3.here hx rfl (hb hby d4_42) rfl rfl ?_
    show Steps p.tables e below (T3.setTop (mkF m 43 #[.val (.ref a1), .val (.int (0 : Int32)), .val (.int tk)] [(.ref a1)])) _
    refine st5 _ ?_
    show Steps p.tables e below (T5.setTop (mkF m 46 #[.val (.ref a1), .val (.int (0 : Int32)), .val (.int tk)] [(.ref b)])) _
    refine XS.iloadN X5.here hx rfl (hb hby d4_46) rfl ?_
    show Steps p.tables e below (T5.setTop (mkF m 47 #[.val (.ref a1), .val (.int (0 : Int32)), .val (.int tk)] [(.int (0 : Int32)), (.ref b)])) _
    refine XS.aloadN X5.here hx rfl (hb hby d4_47) rfl rfl ?_
    show Steps p.tables e below (T5.setTop (mkF m 48 #[.val (.ref a1), .val (.int (0 : Int32)), .val (.int tk)] [(.ref a1), (.int (0 : Int32)), (.ref b)])) _
    refine st6 _ ?_
    show Steps p.tables e below (T6.setTop (mkF m 51 #[.val (.ref a1), .val (.int (0 : Int32)), .val (.int tk)] [(.ref b), (.int (0 : Int32)), (.ref b)])) _
    refine XS.iloadN X6.here hx rfl (hb hby d4_51) rfl ?_
    show Steps p.tables e below (T6.setTop (mkF m 52 #[.val (.ref a1), .val (.int (0 : Int32)), .val (.int tk)] [(.int (0 : Int32)), (.ref b), (.int (0 : Int32)), (.ref b)])) _
    refine XS.iconst X6.here hx rfl (hb hby d4_52) ?_
    show Steps p.tables e below (T6.setTop (mkF m 53 #[.val (.ref a1), .val (.int (0 : Int32)), .val (.int tk)] [(.int (1 : Int32)), (.int (0 : Int32)), (.ref b), (.int (0 : Int32)), (.ref b)])) _
    refine XS.iadd X6.here hx rfl (hb hby d4_53) rfl ?_
    show Steps p.tables e below (T6.setTop (mkF m 54 #[.val (.ref a1), .val (.int (0 : Int32)), .val (.int tk)] [(.int (1 : Int32)), (.ref b), (.int (0 : Int32)), (.ref b)])) _
    refine XS.aloadN X6.here hx rfl (hb hby d4_54) rfl rfl ?_
    show Steps p.tables e below (T6.setTop (mkF m 55 #[.val (.ref a1), .val (.int (0 : Int32)), .val (.int tk)] [(.ref a1), (.int (1 : Int32)), (.ref b), (.int (0 : Int32)), (.ref b)])) _
    refine st7 _ ?_
    show Steps p.tables e below (T7.setTop (mkF m 58 #[.val (.ref a1), .val (.int (0 : Int32)), .val (.int tk)] [(.int (1 : Int32)), (.int (1 : Int32)), (.ref b), (.int (0 : Int32)), (.ref b)])) _
    refine XS.iloadN X7.here hx rfl (hb hby d4_58) rfl ?_
    show Steps p.tables e below (T7.setTop (mkF m 59 #[.val (.ref a1), .val (.int (0 : Int32)), .val (.int tk)] [(.int (0 : Int32)), (.int (1 : Int32)), (.int (1 : Int32)), (.ref b), (.int (0 : Int32)), (.ref b)])) _
    refine XS.isub X7.here hx rfl (hb hby d4_59) rfl ?_
    show Steps p.tables e below (T7.setTop (mkF m 60 #[.val (.ref a1), .val (.int (0 : Int32)), .val (.int tk)] [(.int (1 : Int32)), (.int (1 : Int32)), (.ref b), (.int (0 : Int32)), (.ref b)])) _
    refine st8 _ ?_
    show Steps p.tables e below (T8.setTop (mkF m 63 #[.val (.ref a1), .val (.int (0 : Int32)), .val (.int tk)] [])) _
    refine XS.aloadN X8.here hx rfl (hb hby d4_63) rfl rfl ?_
    show Steps p.tables e below (T8.setTop (mkF m 64 #[.val (.ref a1), .val (.int (0 : Int32)), .val (.int tk)] [(.ref a1)])) _
    refine st16 _ ?_
    show Steps p.tables e below (T16.setTop (mkF m 67 #[.val (.ref a1), .val (.int (0 : Int32)), .val (.int tk)] [(.ref b)])) _
    refine XS.iloadN X16.here hx rfl (hb hby d4_67) rfl ?_
    show Steps p.tables e below (T16.setTop (mkF m 68 #[.val (.ref a1), .val (.int (0 : Int32)), .val (.int tk)] [(.int (0 : Int32)), (.ref b)])) _
    refine XS.iloadN X16.here hx rfl (hb hby d4_68) rfl ?_
    show Steps p.tables e below (T16.setTop (mkF m 69 #[.val (.ref a1), .val (.int (0 : Int32)), .val (.int tk)] [(.int tk), (.int (0 : Int32)), (.ref b)])) _
    refine st18 _ ?_
    show Steps p.tables e below (T18.setTop (mkF m 70 #[.val (.ref a1), .val (.int (0 : Int32)), .val (.int tk)] [])) _
    refine XS.aloadN X18.here hx rfl (hb hby d4_70) rfl rfl ?_
    show Steps p.tables e below (T18.setTop (mkF m 71 #[.val (.ref a1), .val (.int (0 : Int32)), .val (.int tk)] [(.ref a1)])) _
    refine XS.dup X18.here hx rfl (hb hby d4_71) rfl rfl ?_
    show Steps p.tables e below (T18.setTop (mkF m 72 #[.val (.ref a1), .val (.int (0 : Int32)), .val (.int tk)] [(.ref a1), (.ref a1)])) _
    refine st28 _ ?_
    show Steps p.tables e below (T28.setTop (mkF m 75 #[.val (.ref a1), .val (.int (0 : Int32)), .val (.int tk)] [(.int (1 : Int32)), (.ref a1)])) _
    refine XS.iconst X28.here hx rfl (hb hby d4_75) ?_
    show Steps p.tables e below (T28.setTop (mkF m 76 #[.val (.ref a1), .val (.int (0 : Int32)), .val (.int tk)] [(.int (1 : Int32)), (.int (1 : Int32)), (.ref a1)])) _
    refine XS.iadd X28.here hx rfl (hb hby d4_76) rfl ?_
    show Steps p.tables e below (T28.setTop (mkF m 77 #[.val (.ref a1), .val (.int (0 : Int32)), .val (.int tk)] [(.int (2 : Int32)), (.ref a1)])) _
    refine st29 _ ?_
    show Steps p.tables e below (T29.setTop (mkF m 80 #[.val (.ref a1), .val (.int (0 : Int32)), .val (.int tk)] [])) _
    exact X29.returnOut hx Bd.returns (hb hby d4_80) hr
  · show own_QA01 Z a1 b a3 kb tk t0 t1 t2 t3 h0 n0 _ T29.heap _
    rw [e29]
    exact ⟨rfl, N38, kp36, f30, f31, f32, f33, f34, f35⟩
def own_QA22 (Z : State) (a1 b a3 : Addr) (kb : ClassId) (tk t0 t1 t2 t3 : Int32) (h0 : Heap) (n0 : Nat) (v : Option Value) (h : Heap) (L : List Loc) : Prop := v = none ∧ Fr n0 L ∧ Keep h0 h [a1, b] ∧ Exa Z h a1 "com/example/makespun/makespun/simulate/Timeline" ∧ Fld Z h a1 "com/example/makespun/makespun/simulate/Timeline" "tasks" "[I" (.ref b) ∧ Fld Z h a1 "com/example/makespun/makespun/simulate/Timeline" "size" "I" (.int (3 : Int32)) ∧ Fld Z h a1 "com/example/makespun/makespun/simulate/Timeline" "finishes" "[D" (.ref a3) ∧ Fld Z h a1 "com/example/makespun/makespun/simulate/Timeline" "idleIntervals" "Ljava/util/NavigableMap;" .null ∧ Arv Z h b kb .int (4 : Int32) [(.int t0), (.int t1), (.int tk), (.int t3)] (.int (0 : Int32))
set_option maxRecDepth 65536 in
set_option maxHeartbeats 40000000 in
theorem rmA22 (l : Launch) (Z : State) (a0 : Array Value) (hw : ∀ d ∈ tables_1, d.before a0 Z = true) (ws : List Jvm.Cond) (a1 b a3 : Addr) (kb : ClassId) (tk t0 t1 t2 t3 : Int32) (h0 : Heap) (n0 : Nat) (Z0 : n0 ≤ h0.size) (E_a1 : Exa Z h0 a1 "com/example/makespun/makespun/simulate/Timeline") (Ft : Fld Z h0 a1 "com/example/makespun/makespun/simulate/Timeline" "tasks" "[I" (.ref b)) (Fs : Fld Z h0 a1 "com/example/makespun/makespun/simulate/Timeline" "size" "I" (.int (2 : Int32))) (Ff : Fld Z h0 a1 "com/example/makespun/makespun/simulate/Timeline" "finishes" "[D" (.ref a3)) (Fi : Fld Z h0 a1 "com/example/makespun/makespun/simulate/Timeline" "idleIntervals" "Ljava/util/NavigableMap;" .null) (Vt : Arv Z h0 b kb .int (4 : Int32) [(.int t0), (.int t1), (.int t2), (.int t3)] (.int (0 : Int32))) (hne : a1 ≠ b) (g_a1 : n0 ≤ a1) (g_b : n0 ≤ b) :
    MetFree l (⟨"com/example/makespun/makespun/simulate/Timeline", "add", "(II)V"⟩ : MethodName) (head1 (Jvm.Cond.code (⟨"com/example/makespun/makespun/simulate/Timeline", "add", "(II)V"⟩ : MethodName) prog_82_method_7_code 3 none :: ws) ({ frames := 1, cells := 0, slots := 0, locals := 64 } : Room)) (fun a U => a = #[(.ref a1), (.int (2 : Int32)), (.int tk)] ∧ Z.Warmed39 U.vm ∧ U.heap = h0) (fun _ _ _ _ _ => True) (fun _ U o U' => ∃ v L, o = .returned v ∧ own_QA22 Z a1 b a3 kb tk t0 t1 t2 t3 h0 n0 v U'.heap L ∧ FrameEnd U o U' L ({ frames := 1, cells := 0, slots := 0, locals := 64 } : Room).cells ({ frames := 1, cells := 0, slots := 0, locals := 64 } : Room).slots) := by
  refine MetFree.of_bodySF (plainFor_of_name pn_4) hisR ?_
  intro p e s m args below meth c s₁ Bd hml0 hP hK
  obtain ⟨rfl, hZ, hh⟩ := hP
  have hx := Bd.exec
  have hby := Bd.bytes
  have hml : c.maxLocals = 3 := hml0
  have hown : s.vm.findClass "com/example/makespun/makespun/simulate/Timeline" = some m.cls := findClass_of_methodNamed Bd.named
  have hnm := (name_of_methodNamed Bd.named Bd.method).1
  have X0 : Stand p l e ({ frames := 1, cells := 0, slots := 0, locals := 64 } : Room) s m #[(.ref a1), (.int (2 : Int32)), (.int tk)] below meth c s₁ [] 0 0 := Stand.of_body Bd
  have e0 : s₁.heap = h0 := by rw [← hh, Bd.state]; rfl
  have N0 := Fr.nil n0
  have pre0 : ∀ tq, Steps p.tables e below (s₁.setTop (mkF m 0 #[.val (.ref a1), .val (.int (2 : Int32)), .val (.int tk)] [])) tq → Steps p.tables e below (s₁.setTop (entryFrame m #[(.ref a1), (.int (2 : Int32)), (.int tk)] 3)) tq := fun tq k => castTop (ef_4 m a1 (2 : Int32) tk) k
  obtain ⟨T1, X1, e1, st1⟩ := getF X0 hx hZ hown (host := "") (Or.inl (hw _ (List.mem_of_getElem? (i := 32) rfl))) Via.refl e0 Fi (g := (mkF m 1 #[.val (.ref a1), .val (.int (2 : Int32)), .val (.int tk)] [(.ref a1)])) rfl rfl (hb hby d4_1)
  obtain ⟨T2, X2, e2, st2⟩ := getF X1 hx hZ hown (host := "") (Or.inl (hw _ (List.mem_of_getElem? (i := 25) rfl))) Via.refl e1 Fs (g := (mkF m 14 #[.val (.ref a1), .val (.int (2 : Int32)), .val (.int tk)] [(.ref a1)])) rfl rfl (hb hby d4_14)
  obtain ⟨T3, X3, e3, st3⟩ := getF X2 hx hZ hown (host := "") (Or.inl (hw _ (List.mem_of_getElem? (i := 14) rfl))) Via.refl e2 Ft (g := (mkF m 18 #[.val (.ref a1), .val (.int (2 : Int32)), .val (.int tk)] [(.ref a1), (.int (2 : Int32))])) rfl rfl (hb hby d4_18)
  obtain ⟨clq4, Arq4, cq4, Sq4, nq4, Hq4, Gq4⟩ := id Vt
  obtain ⟨T5, X5, e5, st5⟩ := getF X3 hx hZ hown (host := "") (Or.inl (hw _ (List.mem_of_getElem? (i := 14) rfl))) Via.refl e3 Ft (g := (mkF m 43 #[.val (.ref a1), .val (.int (2 : Int32)), .val (.int tk)] [(.ref a1)])) rfl rfl (hb hby d4_43)
  obtain ⟨T6, X6, e6, st6⟩ := getF X5 hx hZ hown (host := "") (Or.inl (hw _ (List.mem_of_getElem? (i := 14) rfl))) Via.refl e5 Ft (g := (mkF m 48 #[.val (.ref a1), .val (.int (2 : Int32)), .val (.int tk)] [(.ref a1), (.int (2 : Int32)), (.ref b)])) rfl rfl (hb hby d4_48)
  obtain ⟨T7, X7, e7, st7⟩ := getF X6 hx hZ hown (host := "") (Or.inl (hw _ (List.mem_of_getElem? (i := 25) rfl))) Via.refl e6 Fs (g := (mkF m 55 #[.val (.ref a1), .val (.int (2 : Int32)), .val (.int tk)] [(.ref a1), (.int (3 : Int32)), (.ref b), (.int (2 : Int32)), (.ref b)])) rfl rfl (hb hby d4_55)
  obtain ⟨T8, h8, L8, X8, e8, N8, K8, Vc8, st8⟩ := cpA X7 hx hZ hown (hw _ (List.mem_of_getElem? (i := 34) rfl)) (hw _ (List.mem_of_getElem? (i := 37) rfl)) (hw _ (List.mem_of_getElem? (i := 35) rfl)) (hw _ (List.mem_of_getElem? (i := 36) rfl)) e7 Vt Vt (us := []) (Or.inl ⟨rfl, rfl⟩) (sp := (2 : Int32)) (dp := (3 : Int32)) (nn := (0 : Int32)) (by first | decide | (show _ ≤ 4; decide)) (by first | decide | (show _ ≤ 4; decide)) (by first | decide | (show _ ≤ 4; decide)) (by first | decide | (show _ ≤ 4; decide)) (by first | decide | (show _ ≤ 4; decide)) rfl (by first | decide | (show _ ≤ 4; decide)) N0 g_b (g := (mkF m 60 #[.val (.ref a1), .val (.int (2 : Int32)), .val (.int tk)] [(.int (0 : Int32)), (.int (3 : Int32)), (.ref b), (.int (2 : Int32)), (.ref b)])) rfl (by rw [hml]; rfl) (rest := []) rfl (hb hby d4_60) (by decide) (W := 0) (by show 2 * 0 + 0 ≤ 0; exact Nat.le_refl _) (by decide)
  have Vd8 : Arv Z h8 b kb .int (4 : Int32) [(.int t0), (.int t1), (.int t2), (.int t3)] (.int (0 : Int32)) := Vc8
  have f9 := E_a1.keep K8
  have f10 := Ft.keep K8 (ninS hne nin0)
  have f11 := Fs.keep K8 (ninS hne nin0)
  have f12 := Ff.keep K8 (ninS hne nin0)
  have f13 := Fi.keep K8 (ninS hne nin0)
  have z14 := Nat.le_trans Z0 K8.1
  have kp15 := Keep.trans (Keep.refl h0 [a1, b]) K8 (allS (Or.inl (List.mem_of_getElem? (i := 1) rfl)) all0)
  obtain ⟨T16, X16, e16, st16⟩ := getF X8 hx hZ hown (host := "") (Or.inl (hw _ (List.mem_of_getElem? (i := 14) rfl))) Via.refl e8 f10 (g := (mkF m 64 #[.val (.ref a1), .val (.int (2 : Int32)), .val (.int tk)] [(.ref a1)])) rfl rfl (hb hby d4_64)
  obtain ⟨clq17, Arq17, cq17, Sq17, nq17, Hq17, Gq17⟩ := id Vd8
  have hiq17 : ¬ ((2 : Int32) < 0 ∨ clq17.slots.size ≤ ((2 : Int32)).toNatClampNeg) := inb_of Sq17 ⟨by decide, by decide⟩
  obtain ⟨T18, h18, X18, e18, W18, st18⟩ := stI X16 hx hZ e16 Arq17 (j := (2 : Int32)) hiq17 (g := (mkF m 69 #[.val (.ref a1), .val (.int (2 : Int32)), .val (.int tk)] [(.int tk), (.int (2 : Int32)), (.ref b)])) rfl rfl (hb hby d4_69)
  have v19 : Arv Z h18 b kb .int (4 : Int32) [(.int t0), (.int t1), (.int tk), (.int t3)] (.int (0 : Int32)) := Arv.set Arq17 cq17 Sq17 nq17 Hq17 Gq17 rfl W18 2 rfl (Nat.le_of_ble_eq_true rfl)
  have f20 := f9.wr W18
  have f21 := f10.other W18 (Or.inl hne)
  have f22 := f11.other W18 (Or.inl hne)
  have f23 := f12.other W18 (Or.inl hne)
  have f24 := f13.other W18 (Or.inl hne)
  have kp25 := kp15.wr W18 (Or.inl (List.mem_of_getElem? (i := 1) rfl))
  have z26 := Nat.le_trans z14 (Keep.of_wr W18).1
  have N27 := Fr.snoc X18 N8 g_b
  obtain ⟨T28, X28, e28, st28⟩ := getF X18 hx hZ hown (host := "") (Or.inl (hw _ (List.mem_of_getElem? (i := 25) rfl))) Via.refl e18 f22 (g := (mkF m 72 #[.val (.ref a1), .val (.int (2 : Int32)), .val (.int tk)] [(.ref a1), (.ref a1)])) rfl rfl (hb hby d4_72)
  obtain ⟨T29, h29, X29, e29, W29, st29⟩ := putF X28 hx hZ hown (host := "") (Or.inl (hw _ (List.mem_of_getElem? (i := 25) rfl))) Via.refl e28 f22 f20 (Or.inl (hw _ (List.mem_of_getElem? (i := 26) rfl))) (hw _ (List.mem_of_getElem? (i := 6) rfl)) (ty := .int) (by decide) rfl rfl (g := (mkF m 77 #[.val (.ref a1), .val (.int (2 : Int32)), .val (.int tk)] [(.int (3 : Int32)), (.ref a1)])) rfl rfl (hb hby d4_77)
  have f30 := f20.wr W29
  have f31 := f21.other W29 (Or.inr (slot_ne (Or.inl (hw _ (List.mem_of_getElem? (i := 15) rfl))) (Or.inl (hw _ (List.mem_of_getElem? (i := 26) rfl))) (by decide) (t := (.array .int)) (t' := .int) (by decide) (by decide)))
  have f32 := f22.same W29
  have f33 := f23.other W29 (Or.inr (slot_ne (Or.inr (hw _ (List.mem_of_getElem? (i := 19) rfl))) (Or.inl (hw _ (List.mem_of_getElem? (i := 26) rfl))) (by decide) (t := (.array .double)) (t' := .int) (by decide) (by decide)))
  have f34 := f24.other W29 (Or.inr (slot_ne (Or.inl (hw _ (List.mem_of_getElem? (i := 33) rfl))) (Or.inl (hw _ (List.mem_of_getElem? (i := 26) rfl))) (by decide) (t := (.object "java/util/NavigableMap")) (t' := .int) (by decide) (by decide)))
  have f35 := v19.other W29 (Ne.symm hne)
  have kp36 := kp25.wr W29 (Or.inl (List.mem_of_getElem? (i := 0) rfl))
  have z37 := Nat.le_trans z26 (Keep.of_wr W29).1
  have N38 := Fr.snoc X29 N27 g_a1
  obtain ⟨fs, hr, hrun, hended, hW, hsame⟩ := X29.leave (v := none) (fun _ => rfl)
  refine ⟨_, _, pre0 _ ?_, hrun, hended, _, _, rfl, ?_, ⟨_, rfl⟩, hW, hsame.mono (by decide) (by decide)⟩
  · show Steps p.tables e below (s₁.setTop (mkF m 0 #[.val (.ref a1), .val (.int (2 : Int32)), .val (.int tk)] [])) _
    refine XS.aloadN X0.here hx rfl (hb hby d4_0) rfl rfl ?_
    show Steps p.tables e below (s₁.setTop (mkF m 1 #[.val (.ref a1), .val (.int (2 : Int32)), .val (.int tk)] [(.ref a1)])) _
    refine st1 _ ?_
    show Steps p.tables e below (T1.setTop (mkF m 4 #[.val (.ref a1), .val (.int (2 : Int32)), .val (.int tk)] [.null])) _
    refine XS.ifnullYes X1.here hx rfl (pc0 := 4) (pc' := 13) rfl (hb hby d4_4) rfl (by decide) (by decide) ?_
    show Steps p.tables e below (T1.setTop (mkF m 13 #[.val (.ref a1), .val (.int (2 : Int32)), .val (.int tk)] [])) _
    refine XS.aloadN X1.here hx rfl (hb hby d4_13) rfl rfl ?_
    show Steps p.tables e below (T1.setTop (mkF m 14 #[.val (.ref a1), .val (.int (2 : Int32)), .val (.int tk)] [(.ref a1)])) _
    refine st2 _ ?_
    show Steps p.tables e below (T2.setTop (mkF m 17 #[.val (.ref a1), .val (.int (2 : Int32)), .val (.int tk)] [(.int (2 : Int32))])) _
    refine XS.aloadN X2.here hx rfl (hb hby d4_17) rfl rfl ?_
    show Steps p.tables e below (T2.setTop (mkF m 18 #[.val (.ref a1), .val (.int (2 : Int32)), .val (.int tk)] [(.ref a1), (.int (2 : Int32))])) _
    refine st3 _ ?_
    show Steps p.tables e below (T3.setTop (mkF m 21 #[.val (.ref a1), .val (.int (2 : Int32)), .val (.int tk)] [(.ref b), (.int (2 : Int32))])) _
    refine X3.arraylength hx (by rw [e3]; exact Arq4.1) (State.isArrayOf_alike hZ.alike Arq4.2.1) (g := (mkF m 21 #[.val (.ref a1), .val (.int (2 : Int32)), .val (.int tk)] [(.ref b), (.int (2 : Int32))])) rfl rfl (hb hby d4_21) _ ?_
    rw [len_of Sq4 nq4]
    show Steps p.tables e below (T3.setTop (mkF m 22 #[.val (.ref a1), .val (.int (2 : Int32)), .val (.int tk)] [(.int (4 : Int32)), (.int (2 : Int32))])) _
    refine XS.icmpYes X3.here hx rfl (pc0 := 22) (pc' := 42) rfl (hb hby d4_22) rfl (feq (by decide : ¬ ((2 : Int32) = (4 : Int32)))).2 (by decide) (by decide) ?_
    show Steps p.tables e below (T3.setTop (mkF m 42 #[.val (.ref a1), .val (.int (2 : Int32)), .val (.int tk)] [])) _
    refine XS.aloadN X3.here hx rfl (hb hby d4_42) rfl rfl ?_
    show Steps p.tables e below (T3.setTop (mkF m 43 #[.val (.ref a1), .val (.int (2 : Int32)), .val (.int tk)] [(.ref a1)])) _
    refine st5 _ ?_
    show Steps p.tables e below (T5.setTop (mkF m 46 #[.val (.ref a1), .val (.int (2 : Int32)), .val (.int tk)] [(.ref b)])) _
    refine XS.iloadN X5.here hx rfl (hb hby d4_46) rfl ?_
    show Steps p.tables e below (T5.setTop (mkF m 47 #[.val (.ref a1), .val (.int (2 : Int32)), .val (.int tk)] [(.int (2 : Int32)), (.ref b)])) _
    refine XS.aloadN X5.here hx rfl (hb hby d4_47) rfl rfl ?_
    show Steps p.tables e below (T5.setTop (mkF m 48 #[.val (.ref a1), .val (.int (2 : Int32)), .val (.int tk)] [(.ref a1), (.int (2 : Int32)), (.ref b)])) _
    refine st6 _ ?_
    show Steps p.tables e below (T6.setTop (mkF m 51 #[.val (.ref a1), .val (.int (2 : Int32)), .val (.int tk)] [(.ref b), (.int (2 : Int32)), (.ref b)])) _
    refine XS.iloadN X6.here hx rfl (hb hby d4_51) rfl ?_
    show Steps p.tables e below (T6.setTop (mkF m 52 #[.val (.ref a1), .val (.int (2 : Int32)), .val (.int tk)] [(.int (2 : Int32)), (.ref b), (.int (2 : Int32)), (.ref b)])) _
    refine XS.iconst X6.here hx rfl (hb hby d4_52) ?_
    show Steps p.tables e below (T6.setTop (mkF m 53 #[.val (.ref a1), .val (.int (2 : Int32)), .val (.int tk)] [(.int (1 : Int32)), (.int (2 : Int32)), (.ref b), (.int (2 : Int32)), (.ref b)])) _
    refine XS.iadd X6.here hx rfl (hb hby d4_53) rfl ?_
    show Steps p.tables e below (T6.setTop (mkF m 54 #[.val (.ref a1), .val (.int (2 : Int32)), .val (.int tk)] [(.int (3 : Int32)), (.ref b), (.int (2 : Int32)), (.ref b)])) _
    refine XS.aloadN X6.here hx rfl (hb hby d4_54) rfl rfl ?_
    show Steps p.tables e below (T6.setTop (mkF m 55 #[.val (.ref a1), .val (.int (2 : Int32)), .val (.int tk)] [(.ref a1), (.int (3 : Int32)), (.ref b), (.int (2 : Int32)), (.ref b)])) _
    refine st7 _ ?_
    show Steps p.tables e below (T7.setTop (mkF m 58 #[.val (.ref a1), .val (.int (2 : Int32)), .val (.int tk)] [(.int (2 : Int32)), (.int (3 : Int32)), (.ref b), (.int (2 : Int32)), (.ref b)])) _
    refine XS.iloadN X7.here hx rfl (hb hby d4_58) rfl ?_
    show Steps p.tables e below (T7.setTop (mkF m 59 #[.val (.ref a1), .val (.int (2 : Int32)), .val (.int tk)] [(.int (2 : Int32)), (.int (2 : Int32)), (.int (3 : Int32)), (.ref b), (.int (2 : Int32)), (.ref b)])) _
    refine XS.isub X7.here hx rfl (hb hby d4_59) rfl ?_
    show Steps p.tables e below (T7.setTop (mkF m 60 #[.val (.ref a1), .val (.int (2 : Int32)), .val (.int tk)] [(.int (0 : Int32)), (.int (3 : Int32)), (.ref b), (.int (2 : Int32)), (.ref b)])) _
    refine st8 _ ?_
    show Steps p.tables e below (T8.setTop (mkF m 63 #[.val (.ref a1), .val (.int (2 : Int32)), .val (.int tk)] [])) _
    refine XS.aloadN X8.here hx rfl (hb hby d4_63) rfl rfl ?_
    show Steps p.tables e below (T8.setTop (mkF m 64 #[.val (.ref a1), .val (.int (2 : Int32)), .val (.int tk)] [(.ref a1)])) _
    refine st16 _ ?_
    show Steps p.tables e below (T16.setTop (mkF m 67 #[.val (.ref a1), .val (.int (2 : Int32)), .val (.int tk)] [(.ref b)])) _
    refine XS.iloadN X16.here hx rfl (hb hby d4_67) rfl ?_
    show Steps p.tables e below (T16.setTop (mkF m 68 #[.val (.ref a1), .val (.int (2 : Int32)), .val (.int tk)] [(.int (2 : Int32)), (.ref b)])) _
    refine XS.iloadN X16.here hx rfl (hb hby d4_68) rfl ?_
    show Steps p.tables e below (T16.setTop (mkF m 69 #[.val (.ref a1), .val (.int (2 : Int32)), .val (.int tk)] [(.int tk), (.int (2 : Int32)), (.ref b)])) _
    refine st18 _ ?_
    show Steps p.tables e below (T18.setTop (mkF m 70 #[.val (.ref a1), .val (.int (2 : Int32)), .val (.int tk)] [])) _
    refine XS.aloadN X18.here hx rfl (hb hby d4_70) rfl rfl ?_
    show Steps p.tables e below (T18.setTop (mkF m 71 #[.val (.ref a1), .val (.int (2 : Int32)), .val (.int tk)] [(.ref a1)])) _
    refine XS.dup X18.here hx rfl (hb hby d4_71) rfl rfl ?_
    show Steps p.tables e below (T18.setTop (mkF m 72 #[.val (.ref a1), .val (.int (2 : Int32)), .val (.int tk)] [(.ref a1), (.ref a1)])) _
    refine st28 _ ?_
    show Steps p.tables e below (T28.setTop (mkF m 75 #[.val (.ref a1), .val (.int (2 : Int32)), .val (.int tk)] [(.int (2 : Int32)), (.ref a1)])) _
    refine XS.iconst X28.here hx rfl (hb hby d4_75) ?_
    show Steps p.tables e below (T28.setTop (mkF m 76 #[.val (.ref a1), .val (.int (2 : Int32)), .val (.int tk)] [(.int (1 : Int32)), (.int (2 : Int32)), (.ref a1)])) _
    refine XS.iadd X28.here hx rfl (hb hby d4_76) rfl ?_
    show Steps p.tables e below (T28.setTop (mkF m 77 #[.val (.ref a1), .val (.int (2 : Int32)), .val (.int tk)] [(.int (3 : Int32)), (.ref a1)])) _
    refine st29 _ ?_
    show Steps p.tables e below (T29.setTop (mkF m 80 #[.val (.ref a1), .val (.int (2 : Int32)), .val (.int tk)] [])) _
    exact X29.returnOut hx Bd.returns (hb hby d4_80) hr
  · show own_QA22 Z a1 b a3 kb tk t0 t1 t2 t3 h0 n0 _ T29.heap _
    rw [e29]
    exact ⟨rfl, N38, kp36, f30, f31, f32, f33, f34, f35⟩
def own_QA02 (Z : State) (a1 b a3 : Addr) (kb : ClassId) (tk t0 t1 t2 t3 : Int32) (h0 : Heap) (n0 : Nat) (v : Option Value) (h : Heap) (L : List Loc) : Prop := v = none ∧ Fr n0 L ∧ Keep h0 h [a1, b] ∧ Exa Z h a1 "com/example/makespun/makespun/simulate/Timeline" ∧ Fld Z h a1 "com/example/makespun/makespun/simulate/Timeline" "tasks" "[I" (.ref b) ∧ Fld Z h a1 "com/example/makespun/makespun/simulate/Timeline" "size" "I" (.int (3 : Int32)) ∧ Fld Z h a1 "com/example/makespun/makespun/simulate/Timeline" "finishes" "[D" (.ref a3) ∧ Fld Z h a1 "com/example/makespun/makespun/simulate/Timeline" "idleIntervals" "Ljava/util/NavigableMap;" .null ∧ Arv Z h b kb .int (4 : Int32) [(.int tk), (.int t0), (.int t1), (.int t3)] (.int (0 : Int32))
set_option maxRecDepth 65536 in
set_option maxHeartbeats 40000000 in
theorem rmA02 (l : Launch) (Z : State) (a0 : Array Value) (hw : ∀ d ∈ tables_1, d.before a0 Z = true) (ws : List Jvm.Cond) (a1 b a3 : Addr) (kb : ClassId) (tk t0 t1 t2 t3 : Int32) (h0 : Heap) (n0 : Nat) (Z0 : n0 ≤ h0.size) (E_a1 : Exa Z h0 a1 "com/example/makespun/makespun/simulate/Timeline") (Ft : Fld Z h0 a1 "com/example/makespun/makespun/simulate/Timeline" "tasks" "[I" (.ref b)) (Fs : Fld Z h0 a1 "com/example/makespun/makespun/simulate/Timeline" "size" "I" (.int (2 : Int32))) (Ff : Fld Z h0 a1 "com/example/makespun/makespun/simulate/Timeline" "finishes" "[D" (.ref a3)) (Fi : Fld Z h0 a1 "com/example/makespun/makespun/simulate/Timeline" "idleIntervals" "Ljava/util/NavigableMap;" .null) (Vt : Arv Z h0 b kb .int (4 : Int32) [(.int t0), (.int t1), (.int t2), (.int t3)] (.int (0 : Int32))) (hne : a1 ≠ b) (g_a1 : n0 ≤ a1) (g_b : n0 ≤ b) :
    MetFree l (⟨"com/example/makespun/makespun/simulate/Timeline", "add", "(II)V"⟩ : MethodName) (head1 (Jvm.Cond.code (⟨"com/example/makespun/makespun/simulate/Timeline", "add", "(II)V"⟩ : MethodName) prog_82_method_7_code 3 none :: ws) ({ frames := 1, cells := 0, slots := 0, locals := 64 } : Room)) (fun a U => a = #[(.ref a1), (.int (0 : Int32)), (.int tk)] ∧ Z.Warmed39 U.vm ∧ U.heap = h0) (fun _ _ _ _ _ => True) (fun _ U o U' => ∃ v L, o = .returned v ∧ own_QA02 Z a1 b a3 kb tk t0 t1 t2 t3 h0 n0 v U'.heap L ∧ FrameEnd U o U' L ({ frames := 1, cells := 0, slots := 0, locals := 64 } : Room).cells ({ frames := 1, cells := 0, slots := 0, locals := 64 } : Room).slots) := by
  refine MetFree.of_bodySF (plainFor_of_name pn_4) hisR ?_
  intro p e s m args below meth c s₁ Bd hml0 hP hK
  obtain ⟨rfl, hZ, hh⟩ := hP
  have hx := Bd.exec
  have hby := Bd.bytes
  have hml : c.maxLocals = 3 := hml0
  have hown : s.vm.findClass "com/example/makespun/makespun/simulate/Timeline" = some m.cls := findClass_of_methodNamed Bd.named
  have hnm := (name_of_methodNamed Bd.named Bd.method).1
  have X0 : Stand p l e ({ frames := 1, cells := 0, slots := 0, locals := 64 } : Room) s m #[(.ref a1), (.int (0 : Int32)), (.int tk)] below meth c s₁ [] 0 0 := Stand.of_body Bd
  have e0 : s₁.heap = h0 := by rw [← hh, Bd.state]; rfl
  have N0 := Fr.nil n0
  have pre0 : ∀ tq, Steps p.tables e below (s₁.setTop (mkF m 0 #[.val (.ref a1), .val (.int (0 : Int32)), .val (.int tk)] [])) tq → Steps p.tables e below (s₁.setTop (entryFrame m #[(.ref a1), (.int (0 : Int32)), (.int tk)] 3)) tq := fun tq k => castTop (ef_4 m a1 (0 : Int32) tk) k
  obtain ⟨T1, X1, e1, st1⟩ := getF X0 hx hZ hown (host := "") (Or.inl (hw _ (List.mem_of_getElem? (i := 32) rfl))) Via.refl e0 Fi (g := (mkF m 1 #[.val (.ref a1), .val (.int (0 : Int32)), .val (.int tk)] [(.ref a1)])) rfl rfl (hb hby d4_1)
  obtain ⟨T2, X2, e2, st2⟩ := getF X1 hx hZ hown (host := "") (Or.inl (hw _ (List.mem_of_getElem? (i := 25) rfl))) Via.refl e1 Fs (g := (mkF m 14 #[.val (.ref a1), .val (.int (0 : Int32)), .val (.int tk)] [(.ref a1)])) rfl rfl (hb hby d4_14)
  obtain ⟨T3, X3, e3, st3⟩ := getF X2 hx hZ hown (host := "") (Or.inl (hw _ (List.mem_of_getElem? (i := 14) rfl))) Via.refl e2 Ft (g := (mkF m 18 #[.val (.ref a1), .val (.int (0 : Int32)), .val (.int tk)] [(.ref a1), (.int (2 : Int32))])) rfl rfl (hb hby d4_18)
  obtain ⟨clq4, Arq4, cq4, Sq4, nq4, Hq4, Gq4⟩ := id Vt
  obtain ⟨T5, X5, e5, st5⟩ := getF X3 hx hZ hown (host := "") (Or.inl (hw _ (List.mem_of_getElem? (i := 14) rfl))) Via.refl e3 Ft (g := (mkF m 43 #[.val (.ref a1), .val (.int (0 : Int32)), .val (.int tk)] [(.ref a1)])) rfl rfl (hb hby d4_43)
  obtain ⟨T6, X6, e6, st6⟩ := getF X5 hx hZ hown (host := "") (Or.inl (hw _ (List.mem_of_getElem? (i := 14) rfl))) Via.refl e5 Ft (g := (mkF m 48 #[.val (.ref a1), .val (.int (0 : Int32)), .val (.int tk)] [(.ref a1), (.int (0 : Int32)), (.ref b)])) rfl rfl (hb hby d4_48)
  obtain ⟨T7, X7, e7, st7⟩ := getF X6 hx hZ hown (host := "") (Or.inl (hw _ (List.mem_of_getElem? (i := 25) rfl))) Via.refl e6 Fs (g := (mkF m 55 #[.val (.ref a1), .val (.int (0 : Int32)), .val (.int tk)] [(.ref a1), (.int (1 : Int32)), (.ref b), (.int (0 : Int32)), (.ref b)])) rfl rfl (hb hby d4_55)
  obtain ⟨T8, h8, L8, X8, e8, N8, K8, Vc8, st8⟩ := cpA X7 hx hZ hown (hw _ (List.mem_of_getElem? (i := 34) rfl)) (hw _ (List.mem_of_getElem? (i := 37) rfl)) (hw _ (List.mem_of_getElem? (i := 35) rfl)) (hw _ (List.mem_of_getElem? (i := 36) rfl)) e7 Vt Vt (us := [(.int t0), (.int t1)]) (Or.inl ⟨rfl, rfl⟩) (sp := (0 : Int32)) (dp := (1 : Int32)) (nn := (2 : Int32)) (by first | decide | (show _ ≤ 4; decide)) (by first | decide | (show _ ≤ 4; decide)) (by first | decide | (show _ ≤ 4; decide)) (by first | decide | (show _ ≤ 4; decide)) (by first | decide | (show _ ≤ 4; decide)) rfl (by first | decide | (show _ ≤ 4; decide)) N0 g_b (g := (mkF m 60 #[.val (.ref a1), .val (.int (0 : Int32)), .val (.int tk)] [(.int (2 : Int32)), (.int (1 : Int32)), (.ref b), (.int (0 : Int32)), (.ref b)])) rfl (by rw [hml]; rfl) (rest := []) rfl (hb hby d4_60) (by decide) (W := 0) (by show 2 * 0 + 0 ≤ 0; exact Nat.le_refl _) (by decide)
  have Vd8 : Arv Z h8 b kb .int (4 : Int32) [(.int t0), (.int t0), (.int t1), (.int t3)] (.int (0 : Int32)) := Vc8
  have f9 := E_a1.keep K8
  have f10 := Ft.keep K8 (ninS hne nin0)
  have f11 := Fs.keep K8 (ninS hne nin0)
  have f12 := Ff.keep K8 (ninS hne nin0)
  have f13 := Fi.keep K8 (ninS hne nin0)
  have z14 := Nat.le_trans Z0 K8.1
  have kp15 := Keep.trans (Keep.refl h0 [a1, b]) K8 (allS (Or.inl (List.mem_of_getElem? (i := 1) rfl)) all0)
  obtain ⟨T16, X16, e16, st16⟩ := getF X8 hx hZ hown (host := "") (Or.inl (hw _ (List.mem_of_getElem? (i := 14) rfl))) Via.refl e8 f10 (g := (mkF m 64 #[.val (.ref a1), .val (.int (0 : Int32)), .val (.int tk)] [(.ref a1)])) rfl rfl (hb hby d4_64)
  obtain ⟨clq17, Arq17, cq17, Sq17, nq17, Hq17, Gq17⟩ := id Vd8
  have hiq17 : ¬ ((0 : Int32) < 0 ∨ clq17.slots.size ≤ ((0 : Int32)).toNatClampNeg) := inb_of Sq17 ⟨by decide, by decide⟩
  obtain ⟨T18, h18, X18, e18, W18, st18⟩ := stI X16 hx hZ e16 Arq17 (j := (0 : Int32)) hiq17 (g := (mkF m 69 #[.val (.ref a1), .val (.int (0 : Int32)), .val (.int tk)] [(.int tk), (.int (0 : Int32)), (.ref b)])) rfl rfl (hb hby d4_69)
  have v19 : Arv Z h18 b kb .int (4 : Int32) [(.int tk), (.int t0), (.int t1), (.int t3)] (.int (0 : Int32)) := Arv.set Arq17 cq17 Sq17 nq17 Hq17 Gq17 rfl W18 0 rfl (Nat.le_of_ble_eq_true rfl)
  have f20 := f9.wr W18
  have f21 := f10.other W18 (Or.inl hne)
  have f22 := f11.other W18 (Or.inl hne)
  have f23 := f12.other W18 (Or.inl hne)
  have f24 := f13.other W18 (Or.inl hne)
  have kp25 := kp15.wr W18 (Or.inl (List.mem_of_getElem? (i := 1) rfl))
  have z26 := Nat.le_trans z14 (Keep.of_wr W18).1
  have N27 := Fr.snoc X18 N8 g_b
  obtain ⟨T28, X28, e28, st28⟩ := getF X18 hx hZ hown (host := "") (Or.inl (hw _ (List.mem_of_getElem? (i := 25) rfl))) Via.refl e18 f22 (g := (mkF m 72 #[.val (.ref a1), .val (.int (0 : Int32)), .val (.int tk)] [(.ref a1), (.ref a1)])) rfl rfl (hb hby d4_72)
  obtain ⟨T29, h29, X29, e29, W29, st29⟩ := putF X28 hx hZ hown (host := "") (Or.inl (hw _ (List.mem_of_getElem? (i := 25) rfl))) Via.refl e28 f22 f20 (Or.inl (hw _ (List.mem_of_getElem? (i := 26) rfl))) (hw _ (List.mem_of_getElem? (i := 6) rfl)) (ty := .int) (by decide) rfl rfl (g := (mkF m 77 #[.val (.ref a1), .val (.int (0 : Int32)), .val (.int tk)] [(.int (3 : Int32)), (.ref a1)])) rfl rfl (hb hby d4_77)
  have f30 := f20.wr W29
  have f31 := f21.other W29 (Or.inr (slot_ne (Or.inl (hw _ (List.mem_of_getElem? (i := 15) rfl))) (Or.inl (hw _ (List.mem_of_getElem? (i := 26) rfl))) (by decide) (t := (.array .int)) (t' := .int) (by decide) (by decide)))
  have f32 := f22.same W29
  have f33 := f23.other W29 (Or.inr (slot_ne (Or.inr (hw _ (List.mem_of_getElem? (i := 19) rfl))) (Or.inl (hw _ (List.mem_of_getElem? (i := 26) rfl))) (by decide) (t := (.array .double)) (t' := .int) (by decide) (by decide)))
  have f34 := f24.other W29 (Or.inr (slot_ne (Or.inl (hw _ (List.mem_of_getElem? (i := 33) rfl))) (Or.inl (hw _ (List.mem_of_getElem? (i := 26) rfl))) (by decide) (t := (.object "java/util/NavigableMap")) (t' := .int) (by decide) (by decide)))
  have f35 := v19.other W29 (Ne.symm hne)
  have kp36 := kp25.wr W29 (Or.inl (List.mem_of_getElem? (i := 0) rfl))
  have z37 := Nat.le_trans z26 (Keep.of_wr W29).1
  have N38 := Fr.snoc X29 N27 g_a1
  obtain ⟨fs, hr, hrun, hended, hW, hsame⟩ := X29.leave (v := none) (fun _ => rfl)
  refine ⟨_, _, pre0 _ ?_, hrun, hended, _, _, rfl, ?_, ⟨_, rfl⟩, hW, hsame.mono (by decide) (by decide)⟩
  · show Steps p.tables e below (s₁.setTop (mkF m 0 #[.val (.ref a1), .val (.int (0 : Int32)), .val (.int tk)] [])) _
    refine XS.aloadN X0.here hx rfl (hb hby d4_0) rfl rfl ?_
    show Steps p.tables e below (s₁.setTop (mkF m 1 #[.val (.ref a1), .val (.int (0 : Int32)), .val (.int tk)] [(.ref a1)])) _
    refine st1 _ ?_
    show Steps p.tables e below (T1.setTop (mkF m 4 #[.val (.ref a1), .val (.int (0 : Int32)), .val (.int tk)] [.null])) _
    refine XS.ifnullYes X1.here hx rfl (pc0 := 4) (pc' := 13) rfl (hb hby d4_4) rfl (by decide) (by decide) ?_
    show Steps p.tables e below (T1.setTop (mkF m 13 #[.val (.ref a1), .val (.int (0 : Int32)), .val (.int tk)] [])) _
    refine XS.aloadN X1.here hx rfl (hb hby d4_13) rfl rfl ?_
    show Steps p.tables e below (T1.setTop (mkF m 14 #[.val (.ref a1), .val (.int (0 : Int32)), .val (.int tk)] [(.ref a1)])) _
    refine st2 _ ?_
    show Steps p.tables e below (T2.setTop (mkF m 17 #[.val (.ref a1), .val (.int (0 : Int32)), .val (.int tk)] [(.int (2 : Int32))])) _
    refine XS.aloadN X2.here hx rfl (hb hby d4_17) rfl rfl ?_
    show Steps p.tables e below (T2.setTop (mkF m 18 #[.val (.ref a1), .val (.int (0 : Int32)), .val (.int tk)] [(.ref a1), (.int (2 : Int32))])) _
    refine st3 _ ?_
    show Steps p.tables e below (T3.setTop (mkF m 21 #[.val (.ref a1), .val (.int (0 : Int32)), .val (.int tk)] [(.ref b), (.int (2 : Int32))])) _
    refine X3.arraylength hx (by rw [e3]; exact Arq4.1) (State.isArrayOf_alike hZ.alike Arq4.2.1) (g := (mkF m 21 #[.val (.ref a1), .val (.int (0 : Int32)), .val (.int tk)] [(.ref b), (.int (2 : Int32))])) rfl rfl (hb hby d4_21) _ ?_
    rw [len_of Sq4 nq4]
    show Steps p.tables e below (T3.setTop (mkF m 22 #[.val (.ref a1), .val (.int (0 : Int32)), .val (.int tk)] [(.int (4 : Int32)), (.int (2 : Int32))])) _
    refine XS.icmpYes X3.here hx rfl (pc0 := 22) (pc' := 42) rfl (hb hby d4_22) rfl (feq (by decide : ¬ ((2 : Int32) = (4 : Int32)))).2 (by decide) (by decide) ?_
    show Steps p.tables e below (T3.setTop (mkF m 42 #[.val (.ref a1), .val (.int (0 : Int32)), .val (.int tk)] [])) _
    refine XS.aloadN X3.here hx rfl (hb hby d4_42) rfl rfl ?_
    show Steps p.tables e below (T3.setTop (mkF m 43 #[.val (.ref a1), .val (.int (0 : Int32)), .val (.int tk)] [(.ref a1)])) _
    refine st5 _ ?_
    show Steps p.tables e below (T5.setTop (mkF m 46 #[.val (.ref a1), .val (.int (0 : Int32)), .val (.int tk)] [(.ref b)])) _
    refine XS.iloadN X5.here hx rfl (hb hby d4_46) rfl ?_
    show Steps p.tables e below (T5.setTop (mkF m 47 #[.val (.ref a1), .val (.int (0 : Int32)), .val (.int tk)] [(.int (0 : Int32)), (.ref b)])) _
    refine XS.aloadN X5.here hx rfl (hb hby d4_47) rfl rfl ?_
    show Steps p.tables e below (T5.setTop (mkF m 48 #[.val (.ref a1), .val (.int (0 : Int32)), .val (.int tk)] [(.ref a1), (.int (0 : Int32)), (.ref b)])) _
    refine st6 _ ?_
    show Steps p.tables e below (T6.setTop (mkF m 51 #[.val (.ref a1), .val (.int (0 : Int32)), .val (.int tk)] [(.ref b), (.int (0 : Int32)), (.ref b)])) _
    refine XS.iloadN X6.here hx rfl (hb hby d4_51) rfl ?_
    show Steps p.tables e below (T6.setTop (mkF m 52 #[.val (.ref a1), .val (.int (0 : Int32)), .val (.int tk)] [(.int (0 : Int32)), (.ref b), (.int (0 : Int32)), (.ref b)])) _
    refine XS.iconst X6.here hx rfl (hb hby d4_52) ?_
    show Steps p.tables e below (T6.setTop (mkF m 53 #[.val (.ref a1), .val (.int (0 : Int32)), .val (.int tk)] [(.int (1 : Int32)), (.int (0 : Int32)), (.ref b), (.int (0 : Int32)), (.ref b)])) _
    refine XS.iadd X6.here hx rfl (hb hby d4_53) rfl ?_
    show Steps p.tables e below (T6.setTop (mkF m 54 #[.val (.ref a1), .val (.int (0 : Int32)), .val (.int tk)] [(.int (1 : Int32)), (.ref b), (.int (0 : Int32)), (.ref b)])) _
    refine XS.aloadN X6.here hx rfl (hb hby d4_54) rfl rfl ?_
    show Steps p.tables e below (T6.setTop (mkF m 55 #[.val (.ref a1), .val (.int (0 : Int32)), .val (.int tk)] [(.ref a1), (.int (1 : Int32)), (.ref b), (.int (0 : Int32)), (.ref b)])) _
    refine st7 _ ?_
    show Steps p.tables e below (T7.setTop (mkF m 58 #[.val (.ref a1), .val (.int (0 : Int32)), .val (.int tk)] [(.int (2 : Int32)), (.int (1 : Int32)), (.ref b), (.int (0 : Int32)), (.ref b)])) _
    refine XS.iloadN X7.here hx rfl (hb hby d4_58) rfl ?_
    show Steps p.tables e below (T7.setTop (mkF m 59 #[.val (.ref a1), .val (.int (0 : Int32)), .val (.int tk)] [(.int (0 : Int32)), (.int (2 : Int32)), (.int (1 : Int32)), (.ref b), (.int (0 : Int32)), (.ref b)])) _
    refine XS.isub X7.here hx rfl (hb hby d4_59) rfl ?_
    show Steps p.tables e below (T7.setTop (mkF m 60 #[.val (.ref a1), .val (.int (0 : Int32)), .val (.int tk)] [(.int (2 : Int32)), (.int (1 : Int32)), (.ref b), (.int (0 : Int32)), (.ref b)])) _
    refine st8 _ ?_
    show Steps p.tables e below (T8.setTop (mkF m 63 #[.val (.ref a1), .val (.int (0 : Int32)), .val (.int tk)] [])) _
    refine XS.aloadN X8.here hx rfl (hb hby d4_63) rfl rfl ?_
    show Steps p.tables e below (T8.setTop (mkF m 64 #[.val (.ref a1), .val (.int (0 : Int32)), .val (.int tk)] [(.ref a1)])) _
    refine st16 _ ?_
    show Steps p.tables e below (T16.setTop (mkF m 67 #[.val (.ref a1), .val (.int (0 : Int32)), .val (.int tk)] [(.ref b)])) _
    refine XS.iloadN X16.here hx rfl (hb hby d4_67) rfl ?_
    show Steps p.tables e below (T16.setTop (mkF m 68 #[.val (.ref a1), .val (.int (0 : Int32)), .val (.int tk)] [(.int (0 : Int32)), (.ref b)])) _
    refine XS.iloadN X16.here hx rfl (hb hby d4_68) rfl ?_
    show Steps p.tables e below (T16.setTop (mkF m 69 #[.val (.ref a1), .val (.int (0 : Int32)), .val (.int tk)] [(.int tk), (.int (0 : Int32)), (.ref b)])) _
    refine st18 _ ?_
    show Steps p.tables e below (T18.setTop (mkF m 70 #[.val (.ref a1), .val (.int (0 : Int32)), .val (.int tk)] [])) _
    refine XS.aloadN X18.here hx rfl (hb hby d4_70) rfl rfl ?_
    show Steps p.tables e below (T18.setTop (mkF m 71 #[.val (.ref a1), .val (.int (0 : Int32)), .val (.int tk)] [(.ref a1)])) _
    refine XS.dup X18.here hx rfl (hb hby d4_71) rfl rfl ?_
    show Steps p.tables e below (T18.setTop (mkF m 72 #[.val (.ref a1), .val (.int (0 : Int32)), .val (.int tk)] [(.ref a1), (.ref a1)])) _
    refine st28 _ ?_
    show Steps p.tables e below (T28.setTop (mkF m 75 #[.val (.ref a1), .val (.int (0 : Int32)), .val (.int tk)] [(.int (2 : Int32)), (.ref a1)])) _
    refine XS.iconst X28.here hx rfl (hb hby d4_75) ?_
    show Steps p.tables e below (T28.setTop (mkF m 76 #[.val (.ref a1), .val (.int (0 : Int32)), .val (.int tk)] [(.int (1 : Int32)), (.int (2 : Int32)), (.ref a1)])) _
    refine XS.iadd X28.here hx rfl (hb hby d4_76) rfl ?_
    show Steps p.tables e below (T28.setTop (mkF m 77 #[.val (.ref a1), .val (.int (0 : Int32)), .val (.int tk)] [(.int (3 : Int32)), (.ref a1)])) _
    refine st29 _ ?_
    show Steps p.tables e below (T29.setTop (mkF m 80 #[.val (.ref a1), .val (.int (0 : Int32)), .val (.int tk)] [])) _
    exact X29.returnOut hx Bd.returns (hb hby d4_80) hr
  · show own_QA02 Z a1 b a3 kb tk t0 t1 t2 t3 h0 n0 _ T29.heap _
    rw [e29]
    exact ⟨rfl, N38, kp36, f30, f31, f32, f33, f34, f35⟩
def own_QF0 (Z : State) (a1 : Addr) := own_QD FP.dconst0 Z
theorem d3_0 : decode prog_82_method_4_code 0 = .ok (.aload_n 0, 1) := by decide +kernel
theorem d3_1 : decode prog_82_method_4_code 1 = .ok (.getfield 20, 3) := by decide +kernel
theorem d3_4 : decode prog_82_method_4_code 4 = .ok (.ifCond .ne 7, 3) := by decide +kernel
theorem d3_7 : decode prog_82_method_4_code 7 = .ok (.dconst 0, 1) := by decide +kernel
theorem d3_8 : decode prog_82_method_4_code 8 = .ok (.goto 19, 3) := by decide +kernel
theorem d3_11 : decode prog_82_method_4_code 11 = .ok (.aload_n 0, 1) := by decide +kernel
theorem d3_12 : decode prog_82_method_4_code 12 = .ok (.getfield 17, 3) := by decide +kernel
theorem d3_15 : decode prog_82_method_4_code 15 = .ok (.aload_n 0, 1) := by decide +kernel
theorem d3_16 : decode prog_82_method_4_code 16 = .ok (.getfield 7, 3) := by decide +kernel
theorem d3_19 : decode prog_82_method_4_code 19 = .ok (.aload_n 0, 1) := by decide +kernel
theorem d3_20 : decode prog_82_method_4_code 20 = .ok (.getfield 20, 3) := by decide +kernel
theorem d3_23 : decode prog_82_method_4_code 23 = .ok (.iconst 1, 1) := by decide +kernel
theorem d3_24 : decode prog_82_method_4_code 24 = .ok (.isub, 1) := by decide +kernel
theorem d3_25 : decode prog_82_method_4_code 25 = .ok (.iaload, 1) := by decide +kernel
theorem d3_26 : decode prog_82_method_4_code 26 = .ok (.daload, 1) := by decide +kernel
theorem d3_27 : decode prog_82_method_4_code 27 = .ok (.dreturn, 1) := by decide +kernel
theorem pn_3 : plainName "com/example/makespun/makespun/simulate/Timeline" = true := by first | (simp [plainName, overriddenIn]; done) | decide +kernel
theorem ef_3 (m : MethodId) (x0 : Addr) : entryFrame m #[(.ref x0)] 1 = mkF m 0 #[.val (.ref x0)] [] := by first | (simp [entryFrame, mkF, argsToLocals, Value.category]; done) | rfl
set_option maxRecDepth 65536 in
set_option maxHeartbeats 40000000 in
theorem rmF0 (l : Launch) (Z : State) (a0 : Array Value) (hw : ∀ d ∈ tables_1, d.before a0 Z = true) (ws : List Jvm.Cond) (a1 : Addr) (h0 : Heap) (n0 : Nat) (Z0 : n0 ≤ h0.size) (Fs : Fld Z h0 a1 "com/example/makespun/makespun/simulate/Timeline" "size" "I" (.int (0 : Int32))) :
    MetFree l (⟨"com/example/makespun/makespun/simulate/Timeline", "freeAt", "()D"⟩ : MethodName) (head1 (Jvm.Cond.code (⟨"com/example/makespun/makespun/simulate/Timeline", "freeAt", "()D"⟩ : MethodName) prog_82_method_4_code 1 (some .double) :: ws) ({ frames := 0, cells := 0, slots := 0, locals := 0 } : Room)) (fun a U => a = #[(.ref a1)] ∧ Z.Warmed39 U.vm ∧ U.heap = h0) (fun _ _ _ _ _ => True) (fun _ U o U' => ∃ v L, o = .returned v ∧ own_QF0 Z a1 h0 n0 v U'.heap L ∧ FrameEnd U o U' L ({ frames := 0, cells := 0, slots := 0, locals := 0 } : Room).cells ({ frames := 0, cells := 0, slots := 0, locals := 0 } : Room).slots) := by
  refine MetFree.of_bodySF (plainFor_of_name pn_3) hisR ?_
  intro p e s m args below meth c s₁ Bd hml0 hP hK
  obtain ⟨rfl, hZ, hh⟩ := hP
  have hx := Bd.exec
  have hby := Bd.bytes
  have hml : c.maxLocals = 1 := hml0
  have hown : s.vm.findClass "com/example/makespun/makespun/simulate/Timeline" = some m.cls := findClass_of_methodNamed Bd.named
  have hnm := (name_of_methodNamed Bd.named Bd.method).1
  have X0 : Stand p l e ({ frames := 0, cells := 0, slots := 0, locals := 0 } : Room) s m #[(.ref a1)] below meth c s₁ [] 0 0 := Stand.of_body Bd
  have e0 : s₁.heap = h0 := by rw [← hh, Bd.state]; rfl
  have N0 := Fr.nil n0
  have pre0 : ∀ tq, Steps p.tables e below (s₁.setTop (mkF m 0 #[.val (.ref a1)] [])) tq → Steps p.tables e below (s₁.setTop (entryFrame m #[(.ref a1)] 1)) tq := fun tq k => castTop (ef_3 m a1) k
  obtain ⟨T1, X1, e1, st1⟩ := getF X0 hx hZ hown (host := "") (Or.inl (hw _ (List.mem_of_getElem? (i := 25) rfl))) Via.refl e0 Fs (g := (mkF m 1 #[.val (.ref a1)] [(.ref a1)])) rfl rfl (hb hby d3_1)
  obtain ⟨fs, hr, hrun, hended, hW, hsame⟩ := X1.leave (v := some (.double FP.dconst0)) (fun h => by rw [Bd.returns] at h; cases h)
  refine ⟨_, _, pre0 _ ?_, hrun, hended, _, _, rfl, ?_, ⟨_, rfl⟩, hW, hsame.mono (by decide) (by decide)⟩
  · show Steps p.tables e below (s₁.setTop (mkF m 0 #[.val (.ref a1)] [])) _
    refine XS.aloadN X0.here hx rfl (hb hby d3_0) rfl rfl ?_
    show Steps p.tables e below (s₁.setTop (mkF m 1 #[.val (.ref a1)] [(.ref a1)])) _
    refine st1 _ ?_
    show Steps p.tables e below (T1.setTop (mkF m 4 #[.val (.ref a1)] [(.int (0 : Int32))])) _
    refine XS.ifNo X1.here hx rfl (hb hby d3_4) rfl ((if0 _ _).trans (teq (by decide : ((0 : Int32) = (0 : Int32)))).2) ?_
    show Steps p.tables e below (T1.setTop (mkF m 7 #[.val (.ref a1)] [])) _
    refine XS.dconst0 X1.here hx rfl (hb hby d3_7) rfl ?_
    show Steps p.tables e below (T1.setTop (mkF m 8 #[.val (.ref a1)] [(.double FP.dconst0)])) _
    refine XS.goto X1.here hx rfl (pc0 := 8) (pc' := 27) rfl (hb hby d3_8) (by decide) (by decide) ?_
    show Steps p.tables e below (T1.setTop (mkF m 27 #[.val (.ref a1)] [(.double FP.dconst0)])) _
    exact retOut X1 hx Bd.returns rfl (Or.inr (Or.inr (Or.inl ⟨rfl, rfl, _, rfl⟩))) (hb hby d3_27) hr
  · show own_QF0 Z a1 h0 n0 _ T1.heap _
    rw [e1]
    exact ⟨rfl, N0, rfl⟩
def own_QF10 (Z : State) (a1 : Addr) (u0 u1 u2 : UInt64) := own_QD u0 Z
set_option maxRecDepth 65536 in
set_option maxHeartbeats 40000000 in
theorem rmF10 (l : Launch) (Z : State) (a0 : Array Value) (hw : ∀ d ∈ tables_1, d.before a0 Z = true) (ws : List Jvm.Cond) (a1 b a3 : Addr) (kb k3 : ClassId) (t1 t2 t3 : Int32) (u0 u1 u2 : UInt64) (h0 : Heap) (n0 : Nat) (Z0 : n0 ≤ h0.size) (Ft : Fld Z h0 a1 "com/example/makespun/makespun/simulate/Timeline" "tasks" "[I" (.ref b)) (Fs : Fld Z h0 a1 "com/example/makespun/makespun/simulate/Timeline" "size" "I" (.int (1 : Int32))) (Ff : Fld Z h0 a1 "com/example/makespun/makespun/simulate/Timeline" "finishes" "[D" (.ref a3)) (Vt : Arv Z h0 b kb .int (4 : Int32) [(.int (0 : Int32)), (.int t1), (.int t2), (.int t3)] (.int (0 : Int32))) (V3 : Arv Z h0 a3 k3 .double (3 : Int32) [(.double u0), (.double u1), (.double u2)] (.double (0 : UInt64))) :
    MetFree l (⟨"com/example/makespun/makespun/simulate/Timeline", "freeAt", "()D"⟩ : MethodName) (head1 (Jvm.Cond.code (⟨"com/example/makespun/makespun/simulate/Timeline", "freeAt", "()D"⟩ : MethodName) prog_82_method_4_code 1 (some .double) :: ws) ({ frames := 0, cells := 0, slots := 0, locals := 0 } : Room)) (fun a U => a = #[(.ref a1)] ∧ Z.Warmed39 U.vm ∧ U.heap = h0) (fun _ _ _ _ _ => True) (fun _ U o U' => ∃ v L, o = .returned v ∧ own_QF10 Z a1 u0 u1 u2 h0 n0 v U'.heap L ∧ FrameEnd U o U' L ({ frames := 0, cells := 0, slots := 0, locals := 0 } : Room).cells ({ frames := 0, cells := 0, slots := 0, locals := 0 } : Room).slots) := by
  refine MetFree.of_bodySF (plainFor_of_name pn_3) hisR ?_
  intro p e s m args below meth c s₁ Bd hml0 hP hK
  obtain ⟨rfl, hZ, hh⟩ := hP
  have hx := Bd.exec
  have hby := Bd.bytes
  have hml : c.maxLocals = 1 := hml0
  have hown : s.vm.findClass "com/example/makespun/makespun/simulate/Timeline" = some m.cls := findClass_of_methodNamed Bd.named
  have hnm := (name_of_methodNamed Bd.named Bd.method).1
  have X0 : Stand p l e ({ frames := 0, cells := 0, slots := 0, locals := 0 } : Room) s m #[(.ref a1)] below meth c s₁ [] 0 0 := Stand.of_body Bd
  have e0 : s₁.heap = h0 := by rw [← hh, Bd.state]; rfl
  have N0 := Fr.nil n0
  have pre0 : ∀ tq, Steps p.tables e below (s₁.setTop (mkF m 0 #[.val (.ref a1)] [])) tq → Steps p.tables e below (s₁.setTop (entryFrame m #[(.ref a1)] 1)) tq := fun tq k => castTop (ef_3 m a1) k
  obtain ⟨T1, X1, e1, st1⟩ := getF X0 hx hZ hown (host := "") (Or.inl (hw _ (List.mem_of_getElem? (i := 25) rfl))) Via.refl e0 Fs (g := (mkF m 1 #[.val (.ref a1)] [(.ref a1)])) rfl rfl (hb hby d3_1)
  obtain ⟨T2, X2, e2, st2⟩ := getF X1 hx hZ hown (host := "") (Or.inl (hw _ (List.mem_of_getElem? (i := 18) rfl))) Via.refl e1 Ff (g := (mkF m 12 #[.val (.ref a1)] [(.ref a1)])) rfl rfl (hb hby d3_12)
  obtain ⟨T3, X3, e3, st3⟩ := getF X2 hx hZ hown (host := "") (Or.inl (hw _ (List.mem_of_getElem? (i := 14) rfl))) Via.refl e2 Ft (g := (mkF m 16 #[.val (.ref a1)] [(.ref a1), (.ref a3)])) rfl rfl (hb hby d3_16)
  obtain ⟨T4, X4, e4, st4⟩ := getF X3 hx hZ hown (host := "") (Or.inl (hw _ (List.mem_of_getElem? (i := 25) rfl))) Via.refl e3 Fs (g := (mkF m 20 #[.val (.ref a1)] [(.ref a1), (.ref b), (.ref a3)])) rfl rfl (hb hby d3_20)
  obtain ⟨clq5, Arq5, cq5, Sq5, nq5, Hq5, Gq5⟩ := id Vt
  have hiq5 : ¬ ((0 : Int32) < 0 ∨ clq5.slots.size ≤ ((0 : Int32)).toNatClampNeg) := inb_of Sq5 ⟨by decide, by decide⟩
  have haq5 : clq5.slots[((0 : Int32)).toNatClampNeg]? = some (.int (0 : Int32)) := Hq5.at hiq5 rfl
  obtain ⟨clq6, Arq6, cq6, Sq6, nq6, Hq6, Gq6⟩ := id V3
  have hiq6 : ¬ ((0 : Int32) < 0 ∨ clq6.slots.size ≤ ((0 : Int32)).toNatClampNeg) := inb_of Sq6 ⟨by decide, by decide⟩
  have haq6 : clq6.slots[((0 : Int32)).toNatClampNeg]? = some (.double u0) := Hq6.at hiq6 rfl
  obtain ⟨fs, hr, hrun, hended, hW, hsame⟩ := X4.leave (v := some (.double u0)) (fun h => by rw [Bd.returns] at h; cases h)
  refine ⟨_, _, pre0 _ ?_, hrun, hended, _, _, rfl, ?_, ⟨_, rfl⟩, hW, hsame.mono (by decide) (by decide)⟩
  · show Steps p.tables e below (s₁.setTop (mkF m 0 #[.val (.ref a1)] [])) _
    refine XS.aloadN X0.here hx rfl (hb hby d3_0) rfl rfl ?_
    show Steps p.tables e below (s₁.setTop (mkF m 1 #[.val (.ref a1)] [(.ref a1)])) _
    refine st1 _ ?_
    show Steps p.tables e below (T1.setTop (mkF m 4 #[.val (.ref a1)] [(.int (1 : Int32))])) _
    refine XS.ifYes X1.here hx rfl (pc0 := 4) (pc' := 11) rfl (hb hby d3_4) rfl ((if0 _ _).trans (feq (by decide : ¬ ((1 : Int32) = (0 : Int32)))).2) (by decide) (by decide) ?_
    show Steps p.tables e below (T1.setTop (mkF m 11 #[.val (.ref a1)] [])) _
    refine XS.aloadN X1.here hx rfl (hb hby d3_11) rfl rfl ?_
    show Steps p.tables e below (T1.setTop (mkF m 12 #[.val (.ref a1)] [(.ref a1)])) _
    refine st2 _ ?_
    show Steps p.tables e below (T2.setTop (mkF m 15 #[.val (.ref a1)] [(.ref a3)])) _
    refine XS.aloadN X2.here hx rfl (hb hby d3_15) rfl rfl ?_
    show Steps p.tables e below (T2.setTop (mkF m 16 #[.val (.ref a1)] [(.ref a1), (.ref a3)])) _
    refine st3 _ ?_
    show Steps p.tables e below (T3.setTop (mkF m 19 #[.val (.ref a1)] [(.ref b), (.ref a3)])) _
    refine XS.aloadN X3.here hx rfl (hb hby d3_19) rfl rfl ?_
    show Steps p.tables e below (T3.setTop (mkF m 20 #[.val (.ref a1)] [(.ref a1), (.ref b), (.ref a3)])) _
    refine st4 _ ?_
    show Steps p.tables e below (T4.setTop (mkF m 23 #[.val (.ref a1)] [(.int (1 : Int32)), (.ref b), (.ref a3)])) _
    refine XS.iconst X4.here hx rfl (hb hby d3_23) ?_
    show Steps p.tables e below (T4.setTop (mkF m 24 #[.val (.ref a1)] [(.int (1 : Int32)), (.int (1 : Int32)), (.ref b), (.ref a3)])) _
    refine XS.isub X4.here hx rfl (hb hby d3_24) rfl ?_
    show Steps p.tables e below (T4.setTop (mkF m 25 #[.val (.ref a1)] [(.int (0 : Int32)), (.ref b), (.ref a3)])) _
    refine X4.iaload hx (j := (0 : Int32)) (v := (.int (0 : Int32))) (by rw [e4]; exact Arq5.1) (State.isArrayOf_alike hZ.alike Arq5.2.1) Arq5.2.2 hiq5 haq5 (g := (mkF m 25 #[.val (.ref a1)] [(.int (0 : Int32)), (.ref b), (.ref a3)])) rfl rfl (hb hby d3_25) _ ?_
    show Steps p.tables e below (T4.setTop (mkF m 26 #[.val (.ref a1)] [(.int (0 : Int32)), (.ref a3)])) _
    refine X4.daload hx (j := (0 : Int32)) (v := (.double u0)) (by rw [e4]; exact Arq6.1) (State.isArrayOf_alike hZ.alike Arq6.2.1) Arq6.2.2 hiq6 haq6 (g := (mkF m 26 #[.val (.ref a1)] [(.int (0 : Int32)), (.ref a3)])) rfl rfl (hb hby d3_26) _ ?_
    show Steps p.tables e below (T4.setTop (mkF m 27 #[.val (.ref a1)] [(.double u0)])) _
    exact retOut X4 hx Bd.returns rfl (Or.inr (Or.inr (Or.inl ⟨rfl, rfl, _, rfl⟩))) (hb hby d3_27) hr
  · show own_QF10 Z a1 u0 u1 u2 h0 n0 _ T4.heap _
    rw [e4]
    exact ⟨rfl, N0, rfl⟩
def own_QF20 (Z : State) (a1 : Addr) (u0 u1 u2 : UInt64) := own_QD u0 Z
set_option maxRecDepth 65536 in
set_option maxHeartbeats 40000000 in
theorem rmF20 (l : Launch) (Z : State) (a0 : Array Value) (hw : ∀ d ∈ tables_1, d.before a0 Z = true) (ws : List Jvm.Cond) (a1 b a3 : Addr) (kb k3 : ClassId) (t0 t2 t3 : Int32) (u0 u1 u2 : UInt64) (h0 : Heap) (n0 : Nat) (Z0 : n0 ≤ h0.size) (Ft : Fld Z h0 a1 "com/example/makespun/makespun/simulate/Timeline" "tasks" "[I" (.ref b)) (Fs : Fld Z h0 a1 "com/example/makespun/makespun/simulate/Timeline" "size" "I" (.int (2 : Int32))) (Ff : Fld Z h0 a1 "com/example/makespun/makespun/simulate/Timeline" "finishes" "[D" (.ref a3)) (Vt : Arv Z h0 b kb .int (4 : Int32) [(.int t0), (.int (0 : Int32)), (.int t2), (.int t3)] (.int (0 : Int32))) (V3 : Arv Z h0 a3 k3 .double (3 : Int32) [(.double u0), (.double u1), (.double u2)] (.double (0 : UInt64))) :
    MetFree l (⟨"com/example/makespun/makespun/simulate/Timeline", "freeAt", "()D"⟩ : MethodName) (head1 (Jvm.Cond.code (⟨"com/example/makespun/makespun/simulate/Timeline", "freeAt", "()D"⟩ : MethodName) prog_82_method_4_code 1 (some .double) :: ws) ({ frames := 0, cells := 0, slots := 0, locals := 0 } : Room)) (fun a U => a = #[(.ref a1)] ∧ Z.Warmed39 U.vm ∧ U.heap = h0) (fun _ _ _ _ _ => True) (fun _ U o U' => ∃ v L, o = .returned v ∧ own_QF20 Z a1 u0 u1 u2 h0 n0 v U'.heap L ∧ FrameEnd U o U' L ({ frames := 0, cells := 0, slots := 0, locals := 0 } : Room).cells ({ frames := 0, cells := 0, slots := 0, locals := 0 } : Room).slots) := by
  refine MetFree.of_bodySF (plainFor_of_name pn_3) hisR ?_
  intro p e s m args below meth c s₁ Bd hml0 hP hK
  obtain ⟨rfl, hZ, hh⟩ := hP
  have hx := Bd.exec
  have hby := Bd.bytes
  have hml : c.maxLocals = 1 := hml0
  have hown : s.vm.findClass "com/example/makespun/makespun/simulate/Timeline" = some m.cls := findClass_of_methodNamed Bd.named
  have hnm := (name_of_methodNamed Bd.named Bd.method).1
  have X0 : Stand p l e ({ frames := 0, cells := 0, slots := 0, locals := 0 } : Room) s m #[(.ref a1)] below meth c s₁ [] 0 0 := Stand.of_body Bd
  have e0 : s₁.heap = h0 := by rw [← hh, Bd.state]; rfl
  have N0 := Fr.nil n0
  have pre0 : ∀ tq, Steps p.tables e below (s₁.setTop (mkF m 0 #[.val (.ref a1)] [])) tq → Steps p.tables e below (s₁.setTop (entryFrame m #[(.ref a1)] 1)) tq := fun tq k => castTop (ef_3 m a1) k
  obtain ⟨T1, X1, e1, st1⟩ := getF X0 hx hZ hown (host := "") (Or.inl (hw _ (List.mem_of_getElem? (i := 25) rfl))) Via.refl e0 Fs (g := (mkF m 1 #[.val (.ref a1)] [(.ref a1)])) rfl rfl (hb hby d3_1)
  obtain ⟨T2, X2, e2, st2⟩ := getF X1 hx hZ hown (host := "") (Or.inl (hw _ (List.mem_of_getElem? (i := 18) rfl))) Via.refl e1 Ff (g := (mkF m 12 #[.val (.ref a1)] [(.ref a1)])) rfl rfl (hb hby d3_12)
  obtain ⟨T3, X3, e3, st3⟩ := getF X2 hx hZ hown (host := "") (Or.inl (hw _ (List.mem_of_getElem? (i := 14) rfl))) Via.refl e2 Ft (g := (mkF m 16 #[.val (.ref a1)] [(.ref a1), (.ref a3)])) rfl rfl (hb hby d3_16)
  obtain ⟨T4, X4, e4, st4⟩ := getF X3 hx hZ hown (host := "") (Or.inl (hw _ (List.mem_of_getElem? (i := 25) rfl))) Via.refl e3 Fs (g := (mkF m 20 #[.val (.ref a1)] [(.ref a1), (.ref b), (.ref a3)])) rfl rfl (hb hby d3_20)
  obtain ⟨clq5, Arq5, cq5, Sq5, nq5, Hq5, Gq5⟩ := id Vt
  have hiq5 : ¬ ((1 : Int32) < 0 ∨ clq5.slots.size ≤ ((1 : Int32)).toNatClampNeg) := inb_of Sq5 ⟨by decide, by decide⟩
  have haq5 : clq5.slots[((1 : Int32)).toNatClampNeg]? = some (.int (0 : Int32)) := Hq5.at hiq5 rfl
  obtain ⟨clq6, Arq6, cq6, Sq6, nq6, Hq6, Gq6⟩ := id V3
  have hiq6 : ¬ ((0 : Int32) < 0 ∨ clq6.slots.size ≤ ((0 : Int32)).toNatClampNeg) := inb_of Sq6 ⟨by decide, by decide⟩
  have haq6 : clq6.slots[((0 : Int32)).toNatClampNeg]? = some (.double u0) := Hq6.at hiq6 rfl
  obtain ⟨fs, hr, hrun, hended, hW, hsame⟩ := X4.leave (v := some (.double u0)) (fun h => by rw [Bd.returns] at h; cases h)
  refine ⟨_, _, pre0 _ ?_, hrun, hended, _, _, rfl, ?_, ⟨_, rfl⟩, hW, hsame.mono (by decide) (by decide)⟩
  · show Steps p.tables e below (s₁.setTop (mkF m 0 #[.val (.ref a1)] [])) _
    refine XS.aloadN X0.here hx rfl (hb hby d3_0) rfl rfl ?_
    show Steps p.tables e below (s₁.setTop (mkF m 1 #[.val (.ref a1)] [(.ref a1)])) _
    refine st1 _ ?_
    show Steps p.tables e below (T1.setTop (mkF m 4 #[.val (.ref a1)] [(.int (2 : Int32))])) _
    refine XS.ifYes X1.here hx rfl (pc0 := 4) (pc' := 11) rfl (hb hby d3_4) rfl ((if0 _ _).trans (feq (by decide : ¬ ((2 : Int32) = (0 : Int32)))).2) (by decide) (by decide) ?_
    show Steps p.tables e below (T1.setTop (mkF m 11 #[.val (.ref a1)] [])) _
    refine XS.aloadN X1.here hx rfl (hb hby d3_11) rfl rfl ?_
    show Steps p.tables e below (T1.setTop (mkF m 12 #[.val (.ref a1)] [(.ref a1)])) _
    refine st2 _ ?_
    show Steps p.tables e below (T2.setTop (mkF m 15 #[.val (.ref a1)] [(.ref a3)])) _
    refine XS.aloadN X2.here hx rfl (hb hby d3_15) rfl rfl ?_
    show Steps p.tables e below (T2.setTop (mkF m 16 #[.val (.ref a1)] [(.ref a1), (.ref a3)])) _
    refine st3 _ ?_
    show Steps p.tables e below (T3.setTop (mkF m 19 #[.val (.ref a1)] [(.ref b), (.ref a3)])) _
    refine XS.aloadN X3.here hx rfl (hb hby d3_19) rfl rfl ?_
    show Steps p.tables e below (T3.setTop (mkF m 20 #[.val (.ref a1)] [(.ref a1), (.ref b), (.ref a3)])) _
    refine st4 _ ?_
    show Steps p.tables e below (T4.setTop (mkF m 23 #[.val (.ref a1)] [(.int (2 : Int32)), (.ref b), (.ref a3)])) _
    refine XS.iconst X4.here hx rfl (hb hby d3_23) ?_
    show Steps p.tables e below (T4.setTop (mkF m 24 #[.val (.ref a1)] [(.int (1 : Int32)), (.int (2 : Int32)), (.ref b), (.ref a3)])) _
    refine XS.isub X4.here hx rfl (hb hby d3_24) rfl ?_
    show Steps p.tables e below (T4.setTop (mkF m 25 #[.val (.ref a1)] [(.int (1 : Int32)), (.ref b), (.ref a3)])) _
    refine X4.iaload hx (j := (1 : Int32)) (v := (.int (0 : Int32))) (by rw [e4]; exact Arq5.1) (State.isArrayOf_alike hZ.alike Arq5.2.1) Arq5.2.2 hiq5 haq5 (g := (mkF m 25 #[.val (.ref a1)] [(.int (1 : Int32)), (.ref b), (.ref a3)])) rfl rfl (hb hby d3_25) _ ?_
    show Steps p.tables e below (T4.setTop (mkF m 26 #[.val (.ref a1)] [(.int (0 : Int32)), (.ref a3)])) _
    refine X4.daload hx (j := (0 : Int32)) (v := (.double u0)) (by rw [e4]; exact Arq6.1) (State.isArrayOf_alike hZ.alike Arq6.2.1) Arq6.2.2 hiq6 haq6 (g := (mkF m 26 #[.val (.ref a1)] [(.int (0 : Int32)), (.ref a3)])) rfl rfl (hb hby d3_26) _ ?_
    show Steps p.tables e below (T4.setTop (mkF m 27 #[.val (.ref a1)] [(.double u0)])) _
    exact retOut X4 hx Bd.returns rfl (Or.inr (Or.inr (Or.inl ⟨rfl, rfl, _, rfl⟩))) (hb hby d3_27) hr
  · show own_QF20 Z a1 u0 u1 u2 h0 n0 _ T4.heap _
    rw [e4]
    exact ⟨rfl, N0, rfl⟩
def own_QF21 (Z : State) (a1 : Addr) (u0 u1 u2 : UInt64) := own_QD u1 Z
set_option maxRecDepth 65536 in
set_option maxHeartbeats 40000000 in
theorem rmF21 (l : Launch) (Z : State) (a0 : Array Value) (hw : ∀ d ∈ tables_1, d.before a0 Z = true) (ws : List Jvm.Cond) (a1 b a3 : Addr) (kb k3 : ClassId) (t0 t2 t3 : Int32) (u0 u1 u2 : UInt64) (h0 : Heap) (n0 : Nat) (Z0 : n0 ≤ h0.size) (Ft : Fld Z h0 a1 "com/example/makespun/makespun/simulate/Timeline" "tasks" "[I" (.ref b)) (Fs : Fld Z h0 a1 "com/example/makespun/makespun/simulate/Timeline" "size" "I" (.int (2 : Int32))) (Ff : Fld Z h0 a1 "com/example/makespun/makespun/simulate/Timeline" "finishes" "[D" (.ref a3)) (Vt : Arv Z h0 b kb .int (4 : Int32) [(.int t0), (.int (1 : Int32)), (.int t2), (.int t3)] (.int (0 : Int32))) (V3 : Arv Z h0 a3 k3 .double (3 : Int32) [(.double u0), (.double u1), (.double u2)] (.double (0 : UInt64))) :
    MetFree l (⟨"com/example/makespun/makespun/simulate/Timeline", "freeAt", "()D"⟩ : MethodName) (head1 (Jvm.Cond.code (⟨"com/example/makespun/makespun/simulate/Timeline", "freeAt", "()D"⟩ : MethodName) prog_82_method_4_code 1 (some .double) :: ws) ({ frames := 0, cells := 0, slots := 0, locals := 0 } : Room)) (fun a U => a = #[(.ref a1)] ∧ Z.Warmed39 U.vm ∧ U.heap = h0) (fun _ _ _ _ _ => True) (fun _ U o U' => ∃ v L, o = .returned v ∧ own_QF21 Z a1 u0 u1 u2 h0 n0 v U'.heap L ∧ FrameEnd U o U' L ({ frames := 0, cells := 0, slots := 0, locals := 0 } : Room).cells ({ frames := 0, cells := 0, slots := 0, locals := 0 } : Room).slots) := by
  refine MetFree.of_bodySF (plainFor_of_name pn_3) hisR ?_
  intro p e s m args below meth c s₁ Bd hml0 hP hK
  obtain ⟨rfl, hZ, hh⟩ := hP
  have hx := Bd.exec
  have hby := Bd.bytes
  have hml : c.maxLocals = 1 := hml0
  have hown : s.vm.findClass "com/example/makespun/makespun/simulate/Timeline" = some m.cls := findClass_of_methodNamed Bd.named
  have hnm := (name_of_methodNamed Bd.named Bd.method).1
  have X0 : Stand p l e ({ frames := 0, cells := 0, slots := 0, locals := 0 } : Room) s m #[(.ref a1)] below meth c s₁ [] 0 0 := Stand.of_body Bd
  have e0 : s₁.heap = h0 := by rw [← hh, Bd.state]; rfl
  have N0 := Fr.nil n0
  have pre0 : ∀ tq, Steps p.tables e below (s₁.setTop (mkF m 0 #[.val (.ref a1)] [])) tq → Steps p.tables e below (s₁.setTop (entryFrame m #[(.ref a1)] 1)) tq := fun tq k => castTop (ef_3 m a1) k
  obtain ⟨T1, X1, e1, st1⟩ := getF X0 hx hZ hown (host := "") (Or.inl (hw _ (List.mem_of_getElem? (i := 25) rfl))) Via.refl e0 Fs (g := (mkF m 1 #[.val (.ref a1)] [(.ref a1)])) rfl rfl (hb hby d3_1)
  obtain ⟨T2, X2, e2, st2⟩ := getF X1 hx hZ hown (host := "") (Or.inl (hw _ (List.mem_of_getElem? (i := 18) rfl))) Via.refl e1 Ff (g := (mkF m 12 #[.val (.ref a1)] [(.ref a1)])) rfl rfl (hb hby d3_12)
  obtain ⟨T3, X3, e3, st3⟩ := getF X2 hx hZ hown (host := "") (Or.inl (hw _ (List.mem_of_getElem? (i := 14) rfl))) Via.refl e2 Ft (g := (mkF m 16 #[.val (.ref a1)] [(.ref a1), (.ref a3)])) rfl rfl (hb hby d3_16)
  obtain ⟨T4, X4, e4, st4⟩ := getF X3 hx hZ hown (host := "") (Or.inl (hw _ (List.mem_of_getElem? (i := 25) rfl))) Via.refl e3 Fs (g := (mkF m 20 #[.val (.ref a1)] [(.ref a1), (.ref b), (.ref a3)])) rfl rfl (hb hby d3_20)
  obtain ⟨clq5, Arq5, cq5, Sq5, nq5, Hq5, Gq5⟩ := id Vt
  have hiq5 : ¬ ((1 : Int32) < 0 ∨ clq5.slots.size ≤ ((1 : Int32)).toNatClampNeg) := inb_of Sq5 ⟨by decide, by decide⟩
  have haq5 : clq5.slots[((1 : Int32)).toNatClampNeg]? = some (.int (1 : Int32)) := Hq5.at hiq5 rfl
  obtain ⟨clq6, Arq6, cq6, Sq6, nq6, Hq6, Gq6⟩ := id V3
  have hiq6 : ¬ ((1 : Int32) < 0 ∨ clq6.slots.size ≤ ((1 : Int32)).toNatClampNeg) := inb_of Sq6 ⟨by decide, by decide⟩
  have haq6 : clq6.slots[((1 : Int32)).toNatClampNeg]? = some (.double u1) := Hq6.at hiq6 rfl
  obtain ⟨fs, hr, hrun, hended, hW, hsame⟩ := X4.leave (v := some (.double u1)) (fun h => by rw [Bd.returns] at h; cases h)
  refine ⟨_, _, pre0 _ ?_, hrun, hended, _, _, rfl, ?_, ⟨_, rfl⟩, hW, hsame.mono (by decide) (by decide)⟩
  · show Steps p.tables e below (s₁.setTop (mkF m 0 #[.val (.ref a1)] [])) _
    refine XS.aloadN X0.here hx rfl (hb hby d3_0) rfl rfl ?_
    show Steps p.tables e below (s₁.setTop (mkF m 1 #[.val (.ref a1)] [(.ref a1)])) _
    refine st1 _ ?_
    show Steps p.tables e below (T1.setTop (mkF m 4 #[.val (.ref a1)] [(.int (2 : Int32))])) _
    refine XS.ifYes X1.here hx rfl (pc0 := 4) (pc' := 11) rfl (hb hby d3_4) rfl ((if0 _ _).trans (feq (by decide : ¬ ((2 : Int32) = (0 : Int32)))).2) (by decide) (by decide) ?_
    show Steps p.tables e below (T1.setTop (mkF m 11 #[.val (.ref a1)] [])) _
    refine XS.aloadN X1.here hx rfl (hb hby d3_11) rfl rfl ?_
    show Steps p.tables e below (T1.setTop (mkF m 12 #[.val (.ref a1)] [(.ref a1)])) _
    refine st2 _ ?_
    show Steps p.tables e below (T2.setTop (mkF m 15 #[.val (.ref a1)] [(.ref a3)])) _
    refine XS.aloadN X2.here hx rfl (hb hby d3_15) rfl rfl ?_
    show Steps p.tables e below (T2.setTop (mkF m 16 #[.val (.ref a1)] [(.ref a1), (.ref a3)])) _
    refine st3 _ ?_
    show Steps p.tables e below (T3.setTop (mkF m 19 #[.val (.ref a1)] [(.ref b), (.ref a3)])) _
    refine XS.aloadN X3.here hx rfl (hb hby d3_19) rfl rfl ?_
    show Steps p.tables e below (T3.setTop (mkF m 20 #[.val (.ref a1)] [(.ref a1), (.ref b), (.ref a3)])) _
    refine st4 _ ?_
    show Steps p.tables e below (T4.setTop (mkF m 23 #[.val (.ref a1)] [(.int (2 : Int32)), (.ref b), (.ref a3)])) _
    refine XS.iconst X4.here hx rfl (hb hby d3_23) ?_
    show Steps p.tables e below (T4.setTop (mkF m 24 #[.val (.ref a1)] [(.int (1 : Int32)), (.int (2 : Int32)), (.ref b), (.ref a3)])) _
    refine XS.isub X4.here hx rfl (hb hby d3_24) rfl ?_
    show Steps p.tables e below (T4.setTop (mkF m 25 #[.val (.ref a1)] [(.int (1 : Int32)), (.ref b), (.ref a3)])) _
    refine X4.iaload hx (j := (1 : Int32)) (v := (.int (1 : Int32))) (by rw [e4]; exact Arq5.1) (State.isArrayOf_alike hZ.alike Arq5.2.1) Arq5.2.2 hiq5 haq5 (g := (mkF m 25 #[.val (.ref a1)] [(.int (1 : Int32)), (.ref b), (.ref a3)])) rfl rfl (hb hby d3_25) _ ?_
    show Steps p.tables e below (T4.setTop (mkF m 26 #[.val (.ref a1)] [(.int (1 : Int32)), (.ref a3)])) _
    refine X4.daload hx (j := (1 : Int32)) (v := (.double u1)) (by rw [e4]; exact Arq6.1) (State.isArrayOf_alike hZ.alike Arq6.2.1) Arq6.2.2 hiq6 haq6 (g := (mkF m 26 #[.val (.ref a1)] [(.int (1 : Int32)), (.ref a3)])) rfl rfl (hb hby d3_26) _ ?_
    show Steps p.tables e below (T4.setTop (mkF m 27 #[.val (.ref a1)] [(.double u1)])) _
    exact retOut X4 hx Bd.returns rfl (Or.inr (Or.inr (Or.inl ⟨rfl, rfl, _, rfl⟩))) (hb hby d3_27) hr
  · show own_QF21 Z a1 u0 u1 u2 h0 n0 _ T4.heap _
    rw [e4]
    exact ⟨rfl, N0, rfl⟩
def own_QF30 (Z : State) (a1 : Addr) (u0 u1 u2 : UInt64) := own_QD u0 Z
set_option maxRecDepth 65536 in
set_option maxHeartbeats 40000000 in
theorem rmF30 (l : Launch) (Z : State) (a0 : Array Value) (hw : ∀ d ∈ tables_1, d.before a0 Z = true) (ws : List Jvm.Cond) (a1 b a3 : Addr) (kb k3 : ClassId) (t0 t1 t3 : Int32) (u0 u1 u2 : UInt64) (h0 : Heap) (n0 : Nat) (Z0 : n0 ≤ h0.size) (Ft : Fld Z h0 a1 "com/example/makespun/makespun/simulate/Timeline" "tasks" "[I" (.ref b)) (Fs : Fld Z h0 a1 "com/example/makespun/makespun/simulate/Timeline" "size" "I" (.int (3 : Int32))) (Ff : Fld Z h0 a1 "com/example/makespun/makespun/simulate/Timeline" "finishes" "[D" (.ref a3)) (Vt : Arv Z h0 b kb .int (4 : Int32) [(.int t0), (.int t1), (.int (0 : Int32)), (.int t3)] (.int (0 : Int32))) (V3 : Arv Z h0 a3 k3 .double (3 : Int32) [(.double u0), (.double u1), (.double u2)] (.double (0 : UInt64))) :
    MetFree l (⟨"com/example/makespun/makespun/simulate/Timeline", "freeAt", "()D"⟩ : MethodName) (head1 (Jvm.Cond.code (⟨"com/example/makespun/makespun/simulate/Timeline", "freeAt", "()D"⟩ : MethodName) prog_82_method_4_code 1 (some .double) :: ws) ({ frames := 0, cells := 0, slots := 0, locals := 0 } : Room)) (fun a U => a = #[(.ref a1)] ∧ Z.Warmed39 U.vm ∧ U.heap = h0) (fun _ _ _ _ _ => True) (fun _ U o U' => ∃ v L, o = .returned v ∧ own_QF30 Z a1 u0 u1 u2 h0 n0 v U'.heap L ∧ FrameEnd U o U' L ({ frames := 0, cells := 0, slots := 0, locals := 0 } : Room).cells ({ frames := 0, cells := 0, slots := 0, locals := 0 } : Room).slots) := by
  refine MetFree.of_bodySF (plainFor_of_name pn_3) hisR ?_
  intro p e s m args below meth c s₁ Bd hml0 hP hK
  obtain ⟨rfl, hZ, hh⟩ := hP
  have hx := Bd.exec
  have hby := Bd.bytes
  have hml : c.maxLocals = 1 := hml0
  have hown : s.vm.findClass "com/example/makespun/makespun/simulate/Timeline" = some m.cls := findClass_of_methodNamed Bd.named
  have hnm := (name_of_methodNamed Bd.named Bd.method).1
  have X0 : Stand p l e ({ frames := 0, cells := 0, slots := 0, locals := 0 } : Room) s m #[(.ref a1)] below meth c s₁ [] 0 0 := Stand.of_body Bd
  have e0 : s₁.heap = h0 := by rw [← hh, Bd.state]; rfl
  have N0 := Fr.nil n0
  have pre0 : ∀ tq, Steps p.tables e below (s₁.setTop (mkF m 0 #[.val (.ref a1)] [])) tq → Steps p.tables e below (s₁.setTop (entryFrame m #[(.ref a1)] 1)) tq := fun tq k => castTop (ef_3 m a1) k
  obtain ⟨T1, X1, e1, st1⟩ := getF X0 hx hZ hown (host := "") (Or.inl (hw _ (List.mem_of_getElem? (i := 25) rfl))) Via.refl e0 Fs (g := (mkF m 1 #[.val (.ref a1)] [(.ref a1)])) rfl rfl (hb hby d3_1)
  obtain ⟨T2, X2, e2, st2⟩ := getF X1 hx hZ hown (host := "") (Or.inl (hw _ (List.mem_of_getElem? (i := 18) rfl))) Via.refl e1 Ff (g := (mkF m 12 #[.val (.ref a1)] [(.ref a1)])) rfl rfl (hb hby d3_12)
  obtain ⟨T3, X3, e3, st3⟩ := getF X2 hx hZ hown (host := "") (Or.inl (hw _ (List.mem_of_getElem? (i := 14) rfl))) Via.refl e2 Ft (g := (mkF m 16 #[.val (.ref a1)] [(.ref a1), (.ref a3)])) rfl rfl (hb hby d3_16)
  obtain ⟨T4, X4, e4, st4⟩ := getF X3 hx hZ hown (host := "") (Or.inl (hw _ (List.mem_of_getElem? (i := 25) rfl))) Via.refl e3 Fs (g := (mkF m 20 #[.val (.ref a1)] [(.ref a1), (.ref b), (.ref a3)])) rfl rfl (hb hby d3_20)
  obtain ⟨clq5, Arq5, cq5, Sq5, nq5, Hq5, Gq5⟩ := id Vt
  have hiq5 : ¬ ((2 : Int32) < 0 ∨ clq5.slots.size ≤ ((2 : Int32)).toNatClampNeg) := inb_of Sq5 ⟨by decide, by decide⟩
  have haq5 : clq5.slots[((2 : Int32)).toNatClampNeg]? = some (.int (0 : Int32)) := Hq5.at hiq5 rfl
  obtain ⟨clq6, Arq6, cq6, Sq6, nq6, Hq6, Gq6⟩ := id V3
  have hiq6 : ¬ ((0 : Int32) < 0 ∨ clq6.slots.size ≤ ((0 : Int32)).toNatClampNeg) := inb_of Sq6 ⟨by decide, by decide⟩
  have haq6 : clq6.slots[((0 : Int32)).toNatClampNeg]? = some (.double u0) := Hq6.at hiq6 rfl
  obtain ⟨fs, hr, hrun, hended, hW, hsame⟩ := X4.leave (v := some (.double u0)) (fun h => by rw [Bd.returns] at h; cases h)
  refine ⟨_, _, pre0 _ ?_, hrun, hended, _, _, rfl, ?_, ⟨_, rfl⟩, hW, hsame.mono (by decide) (by decide)⟩
  · show Steps p.tables e below (s₁.setTop (mkF m 0 #[.val (.ref a1)] [])) _
    refine XS.aloadN X0.here hx rfl (hb hby d3_0) rfl rfl ?_
    show Steps p.tables e below (s₁.setTop (mkF m 1 #[.val (.ref a1)] [(.ref a1)])) _
    refine st1 _ ?_
    show Steps p.tables e below (T1.setTop (mkF m 4 #[.val (.ref a1)] [(.int (3 : Int32))])) _
    refine XS.ifYes X1.here hx rfl (pc0 := 4) (pc' := 11) rfl (hb hby d3_4) rfl ((if0 _ _).trans (feq (by decide : ¬ ((3 : Int32) = (0 : Int32)))).2) (by decide) (by decide) ?_
    show Steps p.tables e below (T1.setTop (mkF m 11 #[.val (.ref a1)] [])) _
    refine XS.aloadN X1.here hx rfl (hb hby d3_11) rfl rfl ?_
    show Steps p.tables e below (T1.setTop (mkF m 12 #[.val (.ref a1)] [(.ref a1)])) _
    refine st2 _ ?_
    show Steps p.tables e below (T2.setTop (mkF m 15 #[.val (.ref a1)] [(.ref a3)])) _
    refine XS.aloadN X2.here hx rfl (hb hby d3_15) rfl rfl ?_
    show Steps p.tables e below (T2.setTop (mkF m 16 #[.val (.ref a1)] [(.ref a1), (.ref a3)])) _
    refine st3 _ ?_
    show Steps p.tables e below (T3.setTop (mkF m 19 #[.val (.ref a1)] [(.ref b), (.ref a3)])) _
    refine XS.aloadN X3.here hx rfl (hb hby d3_19) rfl rfl ?_
    show Steps p.tables e below (T3.setTop (mkF m 20 #[.val (.ref a1)] [(.ref a1), (.ref b), (.ref a3)])) _
    refine st4 _ ?_
    show Steps p.tables e below (T4.setTop (mkF m 23 #[.val (.ref a1)] [(.int (3 : Int32)), (.ref b), (.ref a3)])) _
    refine XS.iconst X4.here hx rfl (hb hby d3_23) ?_
    show Steps p.tables e below (T4.setTop (mkF m 24 #[.val (.ref a1)] [(.int (1 : Int32)), (.int (3 : Int32)), (.ref b), (.ref a3)])) _
    refine XS.isub X4.here hx rfl (hb hby d3_24) rfl ?_
    show Steps p.tables e below (T4.setTop (mkF m 25 #[.val (.ref a1)] [(.int (2 : Int32)), (.ref b), (.ref a3)])) _
    refine X4.iaload hx (j := (2 : Int32)) (v := (.int (0 : Int32))) (by rw [e4]; exact Arq5.1) (State.isArrayOf_alike hZ.alike Arq5.2.1) Arq5.2.2 hiq5 haq5 (g := (mkF m 25 #[.val (.ref a1)] [(.int (2 : Int32)), (.ref b), (.ref a3)])) rfl rfl (hb hby d3_25) _ ?_
    show Steps p.tables e below (T4.setTop (mkF m 26 #[.val (.ref a1)] [(.int (0 : Int32)), (.ref a3)])) _
    refine X4.daload hx (j := (0 : Int32)) (v := (.double u0)) (by rw [e4]; exact Arq6.1) (State.isArrayOf_alike hZ.alike Arq6.2.1) Arq6.2.2 hiq6 haq6 (g := (mkF m 26 #[.val (.ref a1)] [(.int (0 : Int32)), (.ref a3)])) rfl rfl (hb hby d3_26) _ ?_
    show Steps p.tables e below (T4.setTop (mkF m 27 #[.val (.ref a1)] [(.double u0)])) _
    exact retOut X4 hx Bd.returns rfl (Or.inr (Or.inr (Or.inl ⟨rfl, rfl, _, rfl⟩))) (hb hby d3_27) hr
  · show own_QF30 Z a1 u0 u1 u2 h0 n0 _ T4.heap _
    rw [e4]
    exact ⟨rfl, N0, rfl⟩
def own_QF31 (Z : State) (a1 : Addr) (u0 u1 u2 : UInt64) := own_QD u1 Z
set_option maxRecDepth 65536 in
set_option maxHeartbeats 40000000 in
theorem rmF31 (l : Launch) (Z : State) (a0 : Array Value) (hw : ∀ d ∈ tables_1, d.before a0 Z = true) (ws : List Jvm.Cond) (a1 b a3 : Addr) (kb k3 : ClassId) (t0 t1 t3 : Int32) (u0 u1 u2 : UInt64) (h0 : Heap) (n0 : Nat) (Z0 : n0 ≤ h0.size) (Ft : Fld Z h0 a1 "com/example/makespun/makespun/simulate/Timeline" "tasks" "[I" (.ref b)) (Fs : Fld Z h0 a1 "com/example/makespun/makespun/simulate/Timeline" "size" "I" (.int (3 : Int32))) (Ff : Fld Z h0 a1 "com/example/makespun/makespun/simulate/Timeline" "finishes" "[D" (.ref a3)) (Vt : Arv Z h0 b kb .int (4 : Int32) [(.int t0), (.int t1), (.int (1 : Int32)), (.int t3)] (.int (0 : Int32))) (V3 : Arv Z h0 a3 k3 .double (3 : Int32) [(.double u0), (.double u1), (.double u2)] (.double (0 : UInt64))) :
    MetFree l (⟨"com/example/makespun/makespun/simulate/Timeline", "freeAt", "()D"⟩ : MethodName) (head1 (Jvm.Cond.code (⟨"com/example/makespun/makespun/simulate/Timeline", "freeAt", "()D"⟩ : MethodName) prog_82_method_4_code 1 (some .double) :: ws) ({ frames := 0, cells := 0, slots := 0, locals := 0 } : Room)) (fun a U => a = #[(.ref a1)] ∧ Z.Warmed39 U.vm ∧ U.heap = h0) (fun _ _ _ _ _ => True) (fun _ U o U' => ∃ v L, o = .returned v ∧ own_QF31 Z a1 u0 u1 u2 h0 n0 v U'.heap L ∧ FrameEnd U o U' L ({ frames := 0, cells := 0, slots := 0, locals := 0 } : Room).cells ({ frames := 0, cells := 0, slots := 0, locals := 0 } : Room).slots) := by
  refine MetFree.of_bodySF (plainFor_of_name pn_3) hisR ?_
  intro p e s m args below meth c s₁ Bd hml0 hP hK
  obtain ⟨rfl, hZ, hh⟩ := hP
  have hx := Bd.exec
  have hby := Bd.bytes
  have hml : c.maxLocals = 1 := hml0
  have hown : s.vm.findClass "com/example/makespun/makespun/simulate/Timeline" = some m.cls := findClass_of_methodNamed Bd.named
  have hnm := (name_of_methodNamed Bd.named Bd.method).1
  have X0 : Stand p l e ({ frames := 0, cells := 0, slots := 0, locals := 0 } : Room) s m #[(.ref a1)] below meth c s₁ [] 0 0 := Stand.of_body Bd
  have e0 : s₁.heap = h0 := by rw [← hh, Bd.state]; rfl
  have N0 := Fr.nil n0
  have pre0 : ∀ tq, Steps p.tables e below (s₁.setTop (mkF m 0 #[.val (.ref a1)] [])) tq → Steps p.tables e below (s₁.setTop (entryFrame m #[(.ref a1)] 1)) tq := fun tq k => castTop (ef_3 m a1) k
  obtain ⟨T1, X1, e1, st1⟩ := getF X0 hx hZ hown (host := "") (Or.inl (hw _ (List.mem_of_getElem? (i := 25) rfl))) Via.refl e0 Fs (g := (mkF m 1 #[.val (.ref a1)] [(.ref a1)])) rfl rfl (hb hby d3_1)
  obtain ⟨T2, X2, e2, st2⟩ := getF X1 hx hZ hown (host := "") (Or.inl (hw _ (List.mem_of_getElem? (i := 18) rfl))) Via.refl e1 Ff (g := (mkF m 12 #[.val (.ref a1)] [(.ref a1)])) rfl rfl (hb hby d3_12)
  obtain ⟨T3, X3, e3, st3⟩ := getF X2 hx hZ hown (host := "") (Or.inl (hw _ (List.mem_of_getElem? (i := 14) rfl))) Via.refl e2 Ft (g := (mkF m 16 #[.val (.ref a1)] [(.ref a1), (.ref a3)])) rfl rfl (hb hby d3_16)
  obtain ⟨T4, X4, e4, st4⟩ := getF X3 hx hZ hown (host := "") (Or.inl (hw _ (List.mem_of_getElem? (i := 25) rfl))) Via.refl e3 Fs (g := (mkF m 20 #[.val (.ref a1)] [(.ref a1), (.ref b), (.ref a3)])) rfl rfl (hb hby d3_20)
  obtain ⟨clq5, Arq5, cq5, Sq5, nq5, Hq5, Gq5⟩ := id Vt
  have hiq5 : ¬ ((2 : Int32) < 0 ∨ clq5.slots.size ≤ ((2 : Int32)).toNatClampNeg) := inb_of Sq5 ⟨by decide, by decide⟩
  have haq5 : clq5.slots[((2 : Int32)).toNatClampNeg]? = some (.int (1 : Int32)) := Hq5.at hiq5 rfl
  obtain ⟨clq6, Arq6, cq6, Sq6, nq6, Hq6, Gq6⟩ := id V3
  have hiq6 : ¬ ((1 : Int32) < 0 ∨ clq6.slots.size ≤ ((1 : Int32)).toNatClampNeg) := inb_of Sq6 ⟨by decide, by decide⟩
  have haq6 : clq6.slots[((1 : Int32)).toNatClampNeg]? = some (.double u1) := Hq6.at hiq6 rfl
  obtain ⟨fs, hr, hrun, hended, hW, hsame⟩ := X4.leave (v := some (.double u1)) (fun h => by rw [Bd.returns] at h; cases h)
  refine ⟨_, _, pre0 _ ?_, hrun, hended, _, _, rfl, ?_, ⟨_, rfl⟩, hW, hsame.mono (by decide) (by decide)⟩
  · show Steps p.tables e below (s₁.setTop (mkF m 0 #[.val (.ref a1)] [])) _
    refine XS.aloadN X0.here hx rfl (hb hby d3_0) rfl rfl ?_
    show Steps p.tables e below (s₁.setTop (mkF m 1 #[.val (.ref a1)] [(.ref a1)])) _
    refine st1 _ ?_
    show Steps p.tables e below (T1.setTop (mkF m 4 #[.val (.ref a1)] [(.int (3 : Int32))])) _
    refine XS.ifYes X1.here hx rfl (pc0 := 4) (pc' := 11) rfl (hb hby d3_4) rfl ((if0 _ _).trans (feq (by decide : ¬ ((3 : Int32) = (0 : Int32)))).2) (by decide) (by decide) ?_
    show Steps p.tables e below (T1.setTop (mkF m 11 #[.val (.ref a1)] [])) _
    refine XS.aloadN X1.here hx rfl (hb hby d3_11) rfl rfl ?_
    show Steps p.tables e below (T1.setTop (mkF m 12 #[.val (.ref a1)] [(.ref a1)])) _
    refine st2 _ ?_
    show Steps p.tables e below (T2.setTop (mkF m 15 #[.val (.ref a1)] [(.ref a3)])) _
    refine XS.aloadN X2.here hx rfl (hb hby d3_15) rfl rfl ?_
    show Steps p.tables e below (T2.setTop (mkF m 16 #[.val (.ref a1)] [(.ref a1), (.ref a3)])) _
    refine st3 _ ?_
    show Steps p.tables e below (T3.setTop (mkF m 19 #[.val (.ref a1)] [(.ref b), (.ref a3)])) _
    refine XS.aloadN X3.here hx rfl (hb hby d3_19) rfl rfl ?_
    show Steps p.tables e below (T3.setTop (mkF m 20 #[.val (.ref a1)] [(.ref a1), (.ref b), (.ref a3)])) _
    refine st4 _ ?_
    show Steps p.tables e below (T4.setTop (mkF m 23 #[.val (.ref a1)] [(.int (3 : Int32)), (.ref b), (.ref a3)])) _
    refine XS.iconst X4.here hx rfl (hb hby d3_23) ?_
    show Steps p.tables e below (T4.setTop (mkF m 24 #[.val (.ref a1)] [(.int (1 : Int32)), (.int (3 : Int32)), (.ref b), (.ref a3)])) _
    refine XS.isub X4.here hx rfl (hb hby d3_24) rfl ?_
    show Steps p.tables e below (T4.setTop (mkF m 25 #[.val (.ref a1)] [(.int (2 : Int32)), (.ref b), (.ref a3)])) _
    refine X4.iaload hx (j := (2 : Int32)) (v := (.int (1 : Int32))) (by rw [e4]; exact Arq5.1) (State.isArrayOf_alike hZ.alike Arq5.2.1) Arq5.2.2 hiq5 haq5 (g := (mkF m 25 #[.val (.ref a1)] [(.int (2 : Int32)), (.ref b), (.ref a3)])) rfl rfl (hb hby d3_25) _ ?_
    show Steps p.tables e below (T4.setTop (mkF m 26 #[.val (.ref a1)] [(.int (1 : Int32)), (.ref a3)])) _
    refine X4.daload hx (j := (1 : Int32)) (v := (.double u1)) (by rw [e4]; exact Arq6.1) (State.isArrayOf_alike hZ.alike Arq6.2.1) Arq6.2.2 hiq6 haq6 (g := (mkF m 26 #[.val (.ref a1)] [(.int (1 : Int32)), (.ref a3)])) rfl rfl (hb hby d3_26) _ ?_
    show Steps p.tables e below (T4.setTop (mkF m 27 #[.val (.ref a1)] [(.double u1)])) _
    exact retOut X4 hx Bd.returns rfl (Or.inr (Or.inr (Or.inl ⟨rfl, rfl, _, rfl⟩))) (hb hby d3_27) hr
  · show own_QF31 Z a1 u0 u1 u2 h0 n0 _ T4.heap _
    rw [e4]
    exact ⟨rfl, N0, rfl⟩
def own_QF32 (Z : State) (a1 : Addr) (u0 u1 u2 : UInt64) := own_QD u2 Z
set_option maxRecDepth 65536 in
set_option maxHeartbeats 40000000 in
theorem rmF32 (l : Launch) (Z : State) (a0 : Array Value) (hw : ∀ d ∈ tables_1, d.before a0 Z = true) (ws : List Jvm.Cond) (a1 b a3 : Addr) (kb k3 : ClassId) (t0 t1 t3 : Int32) (u0 u1 u2 : UInt64) (h0 : Heap) (n0 : Nat) (Z0 : n0 ≤ h0.size) (Ft : Fld Z h0 a1 "com/example/makespun/makespun/simulate/Timeline" "tasks" "[I" (.ref b)) (Fs : Fld Z h0 a1 "com/example/makespun/makespun/simulate/Timeline" "size" "I" (.int (3 : Int32))) (Ff : Fld Z h0 a1 "com/example/makespun/makespun/simulate/Timeline" "finishes" "[D" (.ref a3)) (Vt : Arv Z h0 b kb .int (4 : Int32) [(.int t0), (.int t1), (.int (2 : Int32)), (.int t3)] (.int (0 : Int32))) (V3 : Arv Z h0 a3 k3 .double (3 : Int32) [(.double u0), (.double u1), (.double u2)] (.double (0 : UInt64))) :
    MetFree l (⟨"com/example/makespun/makespun/simulate/Timeline", "freeAt", "()D"⟩ : MethodName) (head1 (Jvm.Cond.code (⟨"com/example/makespun/makespun/simulate/Timeline", "freeAt", "()D"⟩ : MethodName) prog_82_method_4_code 1 (some .double) :: ws) ({ frames := 0, cells := 0, slots := 0, locals := 0 } : Room)) (fun a U => a = #[(.ref a1)] ∧ Z.Warmed39 U.vm ∧ U.heap = h0) (fun _ _ _ _ _ => True) (fun _ U o U' => ∃ v L, o = .returned v ∧ own_QF32 Z a1 u0 u1 u2 h0 n0 v U'.heap L ∧ FrameEnd U o U' L ({ frames := 0, cells := 0, slots := 0, locals := 0 } : Room).cells ({ frames := 0, cells := 0, slots := 0, locals := 0 } : Room).slots) := by
  refine MetFree.of_bodySF (plainFor_of_name pn_3) hisR ?_
  intro p e s m args below meth c s₁ Bd hml0 hP hK
  obtain ⟨rfl, hZ, hh⟩ := hP
  have hx := Bd.exec
  have hby := Bd.bytes
  have hml : c.maxLocals = 1 := hml0
  have hown : s.vm.findClass "com/example/makespun/makespun/simulate/Timeline" = some m.cls := findClass_of_methodNamed Bd.named
  have hnm := (name_of_methodNamed Bd.named Bd.method).1
  have X0 : Stand p l e ({ frames := 0, cells := 0, slots := 0, locals := 0 } : Room) s m #[(.ref a1)] below meth c s₁ [] 0 0 := Stand.of_body Bd
  have e0 : s₁.heap = h0 := by rw [← hh, Bd.state]; rfl
  have N0 := Fr.nil n0
  have pre0 : ∀ tq, Steps p.tables e below (s₁.setTop (mkF m 0 #[.val (.ref a1)] [])) tq → Steps p.tables e below (s₁.setTop (entryFrame m #[(.ref a1)] 1)) tq := fun tq k => castTop (ef_3 m a1) k
  obtain ⟨T1, X1, e1, st1⟩ := getF X0 hx hZ hown (host := "") (Or.inl (hw _ (List.mem_of_getElem? (i := 25) rfl))) Via.refl e0 Fs (g := (mkF m 1 #[.val (.ref a1)] [(.ref a1)])) rfl rfl (hb hby d3_1)
  obtain ⟨T2, X2, e2, st2⟩ := getF X1 hx hZ hown (host := "") (Or.inl (hw _ (List.mem_of_getElem? (i := 18) rfl))) Via.refl e1 Ff (g := (mkF m 12 #[.val (.ref a1)] [(.ref a1)])) rfl rfl (hb hby d3_12)
  obtain ⟨T3, X3, e3, st3⟩ := getF X2 hx hZ hown (host := "") (Or.inl (hw _ (List.mem_of_getElem? (i := 14) rfl))) Via.refl e2 Ft (g := (mkF m 16 #[.val (.ref a1)] [(.ref a1), (.ref a3)])) rfl rfl (hb hby d3_16)
  obtain ⟨T4, X4, e4, st4⟩ := getF X3 hx hZ hown (host := "") (Or.inl (hw _ (List.mem_of_getElem? (i := 25) rfl))) Via.refl e3 Fs (g := (mkF m 20 #[.val (.ref a1)] [(.ref a1), (.ref b), (.ref a3)])) rfl rfl (hb hby d3_20)
  obtain ⟨clq5, Arq5, cq5, Sq5, nq5, Hq5, Gq5⟩ := id Vt
  have hiq5 : ¬ ((2 : Int32) < 0 ∨ clq5.slots.size ≤ ((2 : Int32)).toNatClampNeg) := inb_of Sq5 ⟨by decide, by decide⟩
  have haq5 : clq5.slots[((2 : Int32)).toNatClampNeg]? = some (.int (2 : Int32)) := Hq5.at hiq5 rfl
  obtain ⟨clq6, Arq6, cq6, Sq6, nq6, Hq6, Gq6⟩ := id V3
  have hiq6 : ¬ ((2 : Int32) < 0 ∨ clq6.slots.size ≤ ((2 : Int32)).toNatClampNeg) := inb_of Sq6 ⟨by decide, by decide⟩
  have haq6 : clq6.slots[((2 : Int32)).toNatClampNeg]? = some (.double u2) := Hq6.at hiq6 rfl
  obtain ⟨fs, hr, hrun, hended, hW, hsame⟩ := X4.leave (v := some (.double u2)) (fun h => by rw [Bd.returns] at h; cases h)
  refine ⟨_, _, pre0 _ ?_, hrun, hended, _, _, rfl, ?_, ⟨_, rfl⟩, hW, hsame.mono (by decide) (by decide)⟩
  · show Steps p.tables e below (s₁.setTop (mkF m 0 #[.val (.ref a1)] [])) _
    refine XS.aloadN X0.here hx rfl (hb hby d3_0) rfl rfl ?_
    show Steps p.tables e below (s₁.setTop (mkF m 1 #[.val (.ref a1)] [(.ref a1)])) _
    refine st1 _ ?_
    show Steps p.tables e below (T1.setTop (mkF m 4 #[.val (.ref a1)] [(.int (3 : Int32))])) _
    refine XS.ifYes X1.here hx rfl (pc0 := 4) (pc' := 11) rfl (hb hby d3_4) rfl ((if0 _ _).trans (feq (by decide : ¬ ((3 : Int32) = (0 : Int32)))).2) (by decide) (by decide) ?_
    show Steps p.tables e below (T1.setTop (mkF m 11 #[.val (.ref a1)] [])) _
    refine XS.aloadN X1.here hx rfl (hb hby d3_11) rfl rfl ?_
    show Steps p.tables e below (T1.setTop (mkF m 12 #[.val (.ref a1)] [(.ref a1)])) _
    refine st2 _ ?_
    show Steps p.tables e below (T2.setTop (mkF m 15 #[.val (.ref a1)] [(.ref a3)])) _
    refine XS.aloadN X2.here hx rfl (hb hby d3_15) rfl rfl ?_
    show Steps p.tables e below (T2.setTop (mkF m 16 #[.val (.ref a1)] [(.ref a1), (.ref a3)])) _
    refine st3 _ ?_
    show Steps p.tables e below (T3.setTop (mkF m 19 #[.val (.ref a1)] [(.ref b), (.ref a3)])) _
    refine XS.aloadN X3.here hx rfl (hb hby d3_19) rfl rfl ?_
    show Steps p.tables e below (T3.setTop (mkF m 20 #[.val (.ref a1)] [(.ref a1), (.ref b), (.ref a3)])) _
    refine st4 _ ?_
    show Steps p.tables e below (T4.setTop (mkF m 23 #[.val (.ref a1)] [(.int (3 : Int32)), (.ref b), (.ref a3)])) _
    refine XS.iconst X4.here hx rfl (hb hby d3_23) ?_
    show Steps p.tables e below (T4.setTop (mkF m 24 #[.val (.ref a1)] [(.int (1 : Int32)), (.int (3 : Int32)), (.ref b), (.ref a3)])) _
    refine XS.isub X4.here hx rfl (hb hby d3_24) rfl ?_
    show Steps p.tables e below (T4.setTop (mkF m 25 #[.val (.ref a1)] [(.int (2 : Int32)), (.ref b), (.ref a3)])) _
    refine X4.iaload hx (j := (2 : Int32)) (v := (.int (2 : Int32))) (by rw [e4]; exact Arq5.1) (State.isArrayOf_alike hZ.alike Arq5.2.1) Arq5.2.2 hiq5 haq5 (g := (mkF m 25 #[.val (.ref a1)] [(.int (2 : Int32)), (.ref b), (.ref a3)])) rfl rfl (hb hby d3_25) _ ?_
    show Steps p.tables e below (T4.setTop (mkF m 26 #[.val (.ref a1)] [(.int (2 : Int32)), (.ref a3)])) _
    refine X4.daload hx (j := (2 : Int32)) (v := (.double u2)) (by rw [e4]; exact Arq6.1) (State.isArrayOf_alike hZ.alike Arq6.2.1) Arq6.2.2 hiq6 haq6 (g := (mkF m 26 #[.val (.ref a1)] [(.int (2 : Int32)), (.ref a3)])) rfl rfl (hb hby d3_26) _ ?_
    show Steps p.tables e below (T4.setTop (mkF m 27 #[.val (.ref a1)] [(.double u2)])) _
    exact retOut X4 hx Bd.returns rfl (Or.inr (Or.inr (Or.inl ⟨rfl, rfl, _, rfl⟩))) (hb hby d3_27) hr
  · show own_QF32 Z a1 u0 u1 u2 h0 n0 _ T4.heap _
    rw [e4]
    exact ⟨rfl, N0, rfl⟩
theorem pd_0 : parseMethodDescriptor "([D[D)V" = some ⟨[(.array .double), (.array .double)], none⟩ := by decide +kernel
theorem pd_1 : parseMethodDescriptor "()V" = some ⟨[], none⟩ := by decide +kernel
theorem pd_2 : parseMethodDescriptor "()D" = some ⟨[], some .double⟩ := by decide +kernel
theorem pd_3 : parseMethodDescriptor "(II)V" = some ⟨[.int, .int], none⟩ := by decide +kernel
theorem pd_4 : parseMethodDescriptor "(JJ)J" = some ⟨[.long, .long], some .long⟩ := by decide +kernel
def own_Q0 (Z : State) (im ib i0 i1 i2 : Int32) (ga : Int64) (h0 : Heap) (n0 : Nat) (v : Option Value) (h : Heap) (L : List Loc) : Prop := v = some (.int 1) ∧ Fr n0 L
theorem pn_0 : plainName "com/example/makespun/makespun/simulate/TimelineFreeAtPinLaw" = true := by first | (simp [plainName, overriddenIn]; done) | decide +kernel
theorem ef_0 (m : MethodId) (x0 : Int32) (x1 : Int32) (x2 : Int32) (x3 : Int32) (x4 : Int32) (x5 : Int64) : entryFrame m #[(.int x0), (.int x1), (.int x2), (.int x3), (.int x4), (.long x5)] maxLocals = mkF m 0 #[.val (.int x0), .val (.int x1), .val (.int x2), .val (.int x3), .val (.int x4), .val (.long x5), .second, .unset, .unset, .unset, .unset, .unset, .unset, .unset, .unset, .unset, .unset, .unset, .unset, .unset, .unset, .unset, .unset, .unset, .unset, .unset, .unset, .unset, .unset] [] := by first | (simp [entryFrame, mkF, argsToLocals, Value.category, maxLocals]; done) | rfl
set_option maxRecDepth 65536 in
set_option maxHeartbeats 40000000 in
theorem rm0_11 (l : Launch) (Z : State) (a0 : Array Value) (hw : ∀ d ∈ tables_1, d.before a0 Z = true) (ws : List Jvm.Cond) (im ib i0 i1 i2 : Int32) (ga : Int64) (h0 : Heap) (n0 : Nat) (Z0 : n0 ≤ h0.size) (he1 : ¬ (im &&& (4 : Int32)) = (0 : Int32)) (he2 : ¬ (im &&& (8 : Int32)) = (0 : Int32)) :
    MetFree l x (head1 (Jvm.Cond.code x code maxLocals ret :: ws) room_1) (fun a U => a = #[(.int im), (.int ib), (.int i0), (.int i1), (.int i2), (.long ga)] ∧ Z.Warmed39 U.vm ∧ U.heap = h0) (fun _ _ _ _ _ => True) (fun _ U o U' => ∃ v L, o = .returned v ∧ own_Q0 Z im ib i0 i1 i2 ga h0 n0 v U'.heap L ∧ FrameEnd U o U' L room_1.cells room_1.slots) := by
  refine MetFree.of_bodySF (plainFor_of_name pn_0) hisR ?_
  intro p e s m args below meth c s₁ Bd hml0 hP hK
  obtain ⟨rfl, hZ, hh⟩ := hP
  have hx := Bd.exec
  have hby := Bd.bytes
  have hml : c.maxLocals = 29 := hml0
  have hown : s.vm.findClass "com/example/makespun/makespun/simulate/TimelineFreeAtPinLaw" = some m.cls := findClass_of_methodNamed Bd.named
  have hnm := (name_of_methodNamed Bd.named Bd.method).1
  have X0 : Stand p l e room_1 s m #[(.int im), (.int ib), (.int i0), (.int i1), (.int i2), (.long ga)] below meth c s₁ [] 0 0 := Stand.of_body Bd
  have e0 : s₁.heap = h0 := by rw [← hh, Bd.state]; rfl
  have N0 := Fr.nil n0
  have pre0 : ∀ tq, Steps p.tables e below (s₁.setTop (mkF m 0 #[.val (.int im), .val (.int ib), .val (.int i0), .val (.int i1), .val (.int i2), .val (.long ga), .second, .unset, .unset, .unset, .unset, .unset, .unset, .unset, .unset, .unset, .unset, .unset, .unset, .unset, .unset, .unset, .unset, .unset, .unset, .unset, .unset, .unset, .unset] [])) tq → Steps p.tables e below (s₁.setTop (entryFrame m #[(.int im), (.int ib), (.int i0), (.int i1), (.int i2), (.long ga)] maxLocals)) tq := fun tq k => castTop (ef_0 m im ib i0 i1 i2 ga) k
  obtain ⟨T1, h1, k1, X1, e1, E1, A1, st1⟩ := newP X0 hx hZ (hw _ (List.mem_of_getElem? (i := 0) rfl)) e0 (g := (mkF m 33 #[.val (.int im), .val (.int ib), .val (.int i0), .val (.int i1), .val (.int i2), .val (.long ga), .second, .val (.int (im &&& (3 : Int32))), .val (.int (1 : Int32)), .val (.int (1 : Int32)), .unset, .unset, .unset, .unset, .unset, .unset, .unset, .unset, .unset, .unset, .unset, .unset, .unset, .unset, .unset, .unset, .unset, .unset, .unset] [(.int (3 : Int32))])) rfl (hb hby at_33) rfl (by decide) (cap := 3) (by decide) (by decide) (by decide) (by decide)
  obtain ⟨b1, g1⟩ : ∃ z, z = h0.size := ⟨_, rfl⟩
  rw [← g1] at A1 st1
  have g_b1 : n0 ≤ b1 := Nat.le_trans Z0 (Nat.le_of_eq g1.symm)
  have sz_b1 : h0.size ≤ b1 := Nat.le_trans (Keep.refl h0 []).1 (Nat.le_of_eq g1.symm)
  have z2 := Nat.le_trans Z0 E1.1
  have kp3 := (Keep.refl h0 []).ext E1
  have V_b1 : Arv Z h1 b1 k1 .int (3 : Int32) [(.int (0 : Int32)), (.int (0 : Int32)), (.int (0 : Int32))] (.int (0 : Int32)) := (Arv.new A1 (by decide)).pad (pad_rep [] (.int (0 : Int32)) 3)
  obtain ⟨clq4, Arq4, cq4, Sq4, nq4, Hq4, Gq4⟩ := id V_b1
  have hiq4 : ¬ ((0 : Int32) < 0 ∨ clq4.slots.size ≤ ((0 : Int32)).toNatClampNeg) := inb_of Sq4 ⟨by decide, by decide⟩
  obtain ⟨T5, h5, X5, e5, W5, st5⟩ := stI X1 hx hZ e1 Arq4 (j := (0 : Int32)) hiq4 (g := (mkF m 46 #[.val (.int im), .val (.int ib), .val (.int i0), .val (.int i1), .val (.int i2), .val (.long ga), .second, .val (.int (im &&& (3 : Int32))), .val (.int (1 : Int32)), .val (.int (1 : Int32)), .val (.ref b1), .unset, .unset, .unset, .unset, .unset, .unset, .unset, .unset, .unset, .unset, .unset, .unset, .unset, .unset, .unset, .unset, .unset, .unset] [(.int (0 : Int32)), (.int (0 : Int32)), (.ref b1)])) rfl rfl (hb hby at_46)
  have v6 : Arv Z h5 b1 k1 .int (3 : Int32) [(.int (0 : Int32)), (.int (0 : Int32)), (.int (0 : Int32))] (.int (0 : Int32)) := Arv.set Arq4 cq4 Sq4 nq4 Hq4 Gq4 rfl W5 0 rfl (Nat.le_of_ble_eq_true rfl)
  have kp7 := kp3.wr W5 (Or.inr sz_b1)
  have z8 := Nat.le_trans z2 (Keep.of_wr W5).1
  have N9 := Fr.snoc X5 N0 g_b1
  obtain ⟨clq10, Arq10, cq10, Sq10, nq10, Hq10, Gq10⟩ := id v6
  have hiq10 : ¬ ((1 : Int32) < 0 ∨ clq10.slots.size ≤ ((1 : Int32)).toNatClampNeg) := inb_of Sq10 ⟨by decide, by decide⟩
  obtain ⟨T11, h11, X11, e11, W11, st11⟩ := stI X5 hx hZ e5 Arq10 (j := (1 : Int32)) hiq10 (g := (mkF m 51 #[.val (.int im), .val (.int ib), .val (.int i0), .val (.int i1), .val (.int i2), .val (.long ga), .second, .val (.int (im &&& (3 : Int32))), .val (.int (1 : Int32)), .val (.int (1 : Int32)), .val (.ref b1), .unset, .unset, .unset, .unset, .unset, .unset, .unset, .unset, .unset, .unset, .unset, .unset, .unset, .unset, .unset, .unset, .unset, .unset] [(.int (1 : Int32)), (.int (1 : Int32)), (.ref b1)])) rfl rfl (hb hby at_51)
  have v12 : Arv Z h11 b1 k1 .int (3 : Int32) [(.int (0 : Int32)), (.int (1 : Int32)), (.int (0 : Int32))] (.int (0 : Int32)) := Arv.set Arq10 cq10 Sq10 nq10 Hq10 Gq10 rfl W11 1 rfl (Nat.le_of_ble_eq_true rfl)
  have kp13 := kp7.wr W11 (Or.inr sz_b1)
  have z14 := Nat.le_trans z8 (Keep.of_wr W11).1
  have N15 := Fr.snoc X11 N9 g_b1
  obtain ⟨clq16, Arq16, cq16, Sq16, nq16, Hq16, Gq16⟩ := id v12
  have hiq16 : ¬ ((2 : Int32) < 0 ∨ clq16.slots.size ≤ ((2 : Int32)).toNatClampNeg) := inb_of Sq16 ⟨by decide, by decide⟩
  obtain ⟨T17, h17, X17, e17, W17, st17⟩ := stI X11 hx hZ e11 Arq16 (j := (2 : Int32)) hiq16 (g := (mkF m 74 #[.val (.int im), .val (.int ib), .val (.int i0), .val (.int i1), .val (.int i2), .val (.long ga), .second, .val (.int (im &&& (3 : Int32))), .val (.int (1 : Int32)), .val (.int (1 : Int32)), .val (.ref b1), .unset, .unset, .unset, .unset, .unset, .unset, .unset, .unset, .unset, .unset, .unset, .unset, .unset, .unset, .unset, .unset, .unset, .unset] [(.int (2 : Int32)), (.int (2 : Int32)), (.ref b1)])) rfl rfl (hb hby at_74)
  have v18 : Arv Z h17 b1 k1 .int (3 : Int32) [(.int (0 : Int32)), (.int (1 : Int32)), (.int (2 : Int32))] (.int (0 : Int32)) := Arv.set Arq16 cq16 Sq16 nq16 Hq16 Gq16 rfl W17 2 rfl (Nat.le_of_ble_eq_true rfl)
  have kp19 := kp13.wr W17 (Or.inr sz_b1)
  have z20 := Nat.le_trans z14 (Keep.of_wr W17).1
  have N21 := Fr.snoc X17 N15 g_b1
  have k22 : ∀ tq, Steps p.tables e below (T17.setTop (mkF m 103 #[.val (.int im), .val (.int ib), .val (.int i0), .val (.int i1), .val (.int i2), .val (.long ga), .second, .val (.int (im &&& (3 : Int32))), .val (.int (1 : Int32)), .val (.int (1 : Int32)), .val (.ref b1), .val (.long (ib.toInt64)), .second, .unset, .unset, .unset, .unset, .unset, .unset, .unset, .unset, .unset, .unset, .unset, .unset, .unset, .unset, .unset, .unset] [])) tq → Steps p.tables e below (s₁.setTop (entryFrame m #[(.int im), (.int ib), (.int i0), (.int i1), (.int i2), (.long ga)] maxLocals)) tq := by
    intro tq kt
    refine pre0 tq ?_
    refine XS.iloadN X0.here hx rfl (hb hby at_0) rfl ?_
    refine XS.iconst X0.here hx rfl (hb hby at_1) ?_
    refine XS.iand X0.here hx rfl (hb hby at_2) rfl ?_
    refine XS.istore X0.here hx rfl (hb hby at_3) rfl (l' := #[.val (.int im), .val (.int ib), .val (.int i0), .val (.int i1), .val (.int i2), .val (.long ga), .second, .val (.int (im &&& (3 : Int32))), .unset, .unset, .unset, .unset, .unset, .unset, .unset, .unset, .unset, .unset, .unset, .unset, .unset, .unset, .unset, .unset, .unset, .unset, .unset, .unset, .unset]) rfl ?_
    refine XS.iloadN X0.here hx rfl (hb hby at_5) rfl ?_
    show Steps p.tables e below (s₁.setTop (mkF m 6 #[.val (.int im), .val (.int ib), .val (.int i0), .val (.int i1), .val (.int i2), .val (.long ga), .second, .val (.int (im &&& (3 : Int32))), .unset, .unset, .unset, .unset, .unset, .unset, .unset, .unset, .unset, .unset, .unset, .unset, .unset, .unset, .unset, .unset, .unset, .unset, .unset, .unset, .unset] [(.int im)])) _
    refine XS.iconst X0.here hx rfl (hb hby at_6) ?_
    refine XS.iand X0.here hx rfl (hb hby at_7) rfl ?_
    show Steps p.tables e below (s₁.setTop (mkF m 8 #[.val (.int im), .val (.int ib), .val (.int i0), .val (.int i1), .val (.int i2), .val (.long ga), .second, .val (.int (im &&& (3 : Int32))), .unset, .unset, .unset, .unset, .unset, .unset, .unset, .unset, .unset, .unset, .unset, .unset, .unset, .unset, .unset, .unset, .unset, .unset, .unset, .unset, .unset] [(.int (im &&& (4 : Int32)))])) _
    refine XS.ifNo X0.here hx rfl (hb hby at_8) rfl ((if0 _ _).trans (feq he1).1) ?_
    refine XS.iconst X0.here hx rfl (hb hby at_11) ?_
    refine XS.goto X0.here hx rfl (pc0 := 12) (pc' := 16) rfl (hb hby at_12) (by decide) (by decide) ?_
    refine XS.istore X0.here hx rfl (hb hby at_16) rfl (l' := #[.val (.int im), .val (.int ib), .val (.int i0), .val (.int i1), .val (.int i2), .val (.long ga), .second, .val (.int (im &&& (3 : Int32))), .val (.int (1 : Int32)), .unset, .unset, .unset, .unset, .unset, .unset, .unset, .unset, .unset, .unset, .unset, .unset, .unset, .unset, .unset, .unset, .unset, .unset, .unset, .unset]) rfl ?_
    refine XS.iloadN X0.here hx rfl (hb hby at_18) rfl ?_
    show Steps p.tables e below (s₁.setTop (mkF m 19 #[.val (.int im), .val (.int ib), .val (.int i0), .val (.int i1), .val (.int i2), .val (.long ga), .second, .val (.int (im &&& (3 : Int32))), .val (.int (1 : Int32)), .unset, .unset, .unset, .unset, .unset, .unset, .unset, .unset, .unset, .unset, .unset, .unset, .unset, .unset, .unset, .unset, .unset, .unset, .unset, .unset] [(.int im)])) _
    refine XS.bipush X0.here hx rfl (hb hby at_19) ?_
    refine XS.iand X0.here hx rfl (hb hby at_21) rfl ?_
    show Steps p.tables e below (s₁.setTop (mkF m 22 #[.val (.int im), .val (.int ib), .val (.int i0), .val (.int i1), .val (.int i2), .val (.long ga), .second, .val (.int (im &&& (3 : Int32))), .val (.int (1 : Int32)), .unset, .unset, .unset, .unset, .unset, .unset, .unset, .unset, .unset, .unset, .unset, .unset, .unset, .unset, .unset, .unset, .unset, .unset, .unset, .unset] [(.int (im &&& (8 : Int32)))])) _
    refine XS.ifNo X0.here hx rfl (hb hby at_22) rfl ((if0 _ _).trans (feq he2).1) ?_
    refine XS.iconst X0.here hx rfl (hb hby at_25) ?_
    refine XS.goto X0.here hx rfl (pc0 := 26) (pc' := 30) rfl (hb hby at_26) (by decide) (by decide) ?_
    refine XS.istore X0.here hx rfl (hb hby at_30) rfl (l' := #[.val (.int im), .val (.int ib), .val (.int i0), .val (.int i1), .val (.int i2), .val (.long ga), .second, .val (.int (im &&& (3 : Int32))), .val (.int (1 : Int32)), .val (.int (1 : Int32)), .unset, .unset, .unset, .unset, .unset, .unset, .unset, .unset, .unset, .unset, .unset, .unset, .unset, .unset, .unset, .unset, .unset, .unset, .unset]) rfl ?_
    refine XS.iconst X0.here hx rfl (hb hby at_32) ?_
    show Steps p.tables e below (s₁.setTop (mkF m 33 #[.val (.int im), .val (.int ib), .val (.int i0), .val (.int i1), .val (.int i2), .val (.long ga), .second, .val (.int (im &&& (3 : Int32))), .val (.int (1 : Int32)), .val (.int (1 : Int32)), .unset, .unset, .unset, .unset, .unset, .unset, .unset, .unset, .unset, .unset, .unset, .unset, .unset, .unset, .unset, .unset, .unset, .unset, .unset] [(.int (3 : Int32))])) _
    refine st1 _ ?_
    refine XS.astore X1.here hx rfl (hb hby at_35) rfl rfl (l' := #[.val (.int im), .val (.int ib), .val (.int i0), .val (.int i1), .val (.int i2), .val (.long ga), .second, .val (.int (im &&& (3 : Int32))), .val (.int (1 : Int32)), .val (.int (1 : Int32)), .val (.ref b1), .unset, .unset, .unset, .unset, .unset, .unset, .unset, .unset, .unset, .unset, .unset, .unset, .unset, .unset, .unset, .unset, .unset, .unset]) rfl ?_
    refine XS.iload X1.here hx rfl (hb hby at_37) rfl ?_
    show Steps p.tables e below (T1.setTop (mkF m 39 #[.val (.int im), .val (.int ib), .val (.int i0), .val (.int i1), .val (.int i2), .val (.long ga), .second, .val (.int (im &&& (3 : Int32))), .val (.int (1 : Int32)), .val (.int (1 : Int32)), .val (.ref b1), .unset, .unset, .unset, .unset, .unset, .unset, .unset, .unset, .unset, .unset, .unset, .unset, .unset, .unset, .unset, .unset, .unset, .unset] [(.int (1 : Int32))])) _
    refine XS.ifNo X1.here hx rfl (hb hby at_39) rfl ((if0 _ _).trans (feq (by decide : ¬ ((1 : Int32) = (0 : Int32)))).1) ?_
    refine XS.aload X1.here hx rfl (hb hby at_42) rfl rfl ?_
    refine XS.iconst X1.here hx rfl (hb hby at_44) ?_
    refine XS.iconst X1.here hx rfl (hb hby at_45) ?_
    show Steps p.tables e below (T1.setTop (mkF m 46 #[.val (.int im), .val (.int ib), .val (.int i0), .val (.int i1), .val (.int i2), .val (.long ga), .second, .val (.int (im &&& (3 : Int32))), .val (.int (1 : Int32)), .val (.int (1 : Int32)), .val (.ref b1), .unset, .unset, .unset, .unset, .unset, .unset, .unset, .unset, .unset, .unset, .unset, .unset, .unset, .unset, .unset, .unset, .unset, .unset] [(.int (0 : Int32)), (.int (0 : Int32)), (.ref b1)])) _
    refine st5 _ ?_
    refine XS.aload X5.here hx rfl (hb hby at_47) rfl rfl ?_
    refine XS.iconst X5.here hx rfl (hb hby at_49) ?_
    refine XS.iconst X5.here hx rfl (hb hby at_50) ?_
    refine st11 _ ?_
    refine XS.goto X11.here hx rfl (pc0 := 52) (pc' := 65) rfl (hb hby at_52) (by decide) (by decide) ?_
    show Steps p.tables e below (T11.setTop (mkF m 65 #[.val (.int im), .val (.int ib), .val (.int i0), .val (.int i1), .val (.int i2), .val (.long ga), .second, .val (.int (im &&& (3 : Int32))), .val (.int (1 : Int32)), .val (.int (1 : Int32)), .val (.ref b1), .unset, .unset, .unset, .unset, .unset, .unset, .unset, .unset, .unset, .unset, .unset, .unset, .unset, .unset, .unset, .unset, .unset, .unset] [])) _
    refine XS.iload X11.here hx rfl (hb hby at_65) rfl ?_
    show Steps p.tables e below (T11.setTop (mkF m 67 #[.val (.int im), .val (.int ib), .val (.int i0), .val (.int i1), .val (.int i2), .val (.long ga), .second, .val (.int (im &&& (3 : Int32))), .val (.int (1 : Int32)), .val (.int (1 : Int32)), .val (.ref b1), .unset, .unset, .unset, .unset, .unset, .unset, .unset, .unset, .unset, .unset, .unset, .unset, .unset, .unset, .unset, .unset, .unset, .unset] [(.int (1 : Int32))])) _
    refine XS.ifNo X11.here hx rfl (hb hby at_67) rfl ((if0 _ _).trans (feq (by decide : ¬ ((1 : Int32) = (0 : Int32)))).1) ?_
    refine XS.aload X11.here hx rfl (hb hby at_70) rfl rfl ?_
    refine XS.iconst X11.here hx rfl (hb hby at_72) ?_
    refine XS.iconst X11.here hx rfl (hb hby at_73) ?_
    refine st17 _ ?_
    refine XS.goto X17.here hx rfl (pc0 := 75) (pc' := 99) rfl (hb hby at_75) (by decide) (by decide) ?_
    show Steps p.tables e below (T17.setTop (mkF m 99 #[.val (.int im), .val (.int ib), .val (.int i0), .val (.int i1), .val (.int i2), .val (.long ga), .second, .val (.int (im &&& (3 : Int32))), .val (.int (1 : Int32)), .val (.int (1 : Int32)), .val (.ref b1), .unset, .unset, .unset, .unset, .unset, .unset, .unset, .unset, .unset, .unset, .unset, .unset, .unset, .unset, .unset, .unset, .unset, .unset] [])) _
    refine XS.iloadN X17.here hx rfl (hb hby at_99) rfl ?_
    refine XS.i2l X17.here hx rfl (hb hby at_100) rfl ?_
    refine XS.lstore X17.here hx rfl (hb hby at_101) rfl (l' := #[.val (.int im), .val (.int ib), .val (.int i0), .val (.int i1), .val (.int i2), .val (.long ga), .second, .val (.int (im &&& (3 : Int32))), .val (.int (1 : Int32)), .val (.int (1 : Int32)), .val (.ref b1), .val (.long (ib.toInt64)), .second, .unset, .unset, .unset, .unset, .unset, .unset, .unset, .unset, .unset, .unset, .unset, .unset, .unset, .unset, .unset, .unset]) rfl ?_
    exact kt
  obtain ⟨s0, hs0⟩ : ∃ z : Int64, z = (ib.toInt64) := ⟨_, rfl⟩
  have k23 : ∀ tq, Steps p.tables e below (T17.setTop (mkF m 103 #[.val (.int im), .val (.int ib), .val (.int i0), .val (.int i1), .val (.int i2), .val (.long ga), .second, .val (.int (im &&& (3 : Int32))), .val (.int (1 : Int32)), .val (.int (1 : Int32)), .val (.ref b1), .val (.long s0), .second, .unset, .unset, .unset, .unset, .unset, .unset, .unset, .unset, .unset, .unset, .unset, .unset, .unset, .unset, .unset, .unset] [])) tq → Steps p.tables e below (s₁.setTop (entryFrame m #[(.int im), (.int ib), (.int i0), (.int i1), (.int i2), (.long ga)] maxLocals)) tq := by
    intro tq kt
    subst hs0
    exact k22 tq kt
  have k24 : ∀ tq, Steps p.tables e below (T17.setTop (mkF m 113 #[.val (.int im), .val (.int ib), .val (.int i0), .val (.int i1), .val (.int i2), .val (.long ga), .second, .val (.int (im &&& (3 : Int32))), .val (.int (1 : Int32)), .val (.int (1 : Int32)), .val (.ref b1), .val (.long s0), .second, .val (.long (s0 + ((i0 &&& (2147483647 : Int32)).toInt64))), .second, .unset, .unset, .unset, .unset, .unset, .unset, .unset, .unset, .unset, .unset, .unset, .unset, .unset, .unset] [])) tq → Steps p.tables e below (s₁.setTop (entryFrame m #[(.int im), (.int ib), (.int i0), (.int i1), (.int i2), (.long ga)] maxLocals)) tq := by
    intro tq kt
    refine k23 tq ?_
    refine XS.lload X17.here hx rfl (hb hby at_103) rfl ?_
    refine XS.iloadN X17.here hx rfl (hb hby at_105) rfl ?_
    show Steps p.tables e below (T17.setTop (mkF m 106 #[.val (.int im), .val (.int ib), .val (.int i0), .val (.int i1), .val (.int i2), .val (.long ga), .second, .val (.int (im &&& (3 : Int32))), .val (.int (1 : Int32)), .val (.int (1 : Int32)), .val (.ref b1), .val (.long s0), .second, .unset, .unset, .unset, .unset, .unset, .unset, .unset, .unset, .unset, .unset, .unset, .unset, .unset, .unset, .unset, .unset] [(.int i0), (.long s0)])) _
    refine X17.ldcInt hx hown (mvT hZ (hw _ (List.mem_of_getElem? (i := 1) rfl))) (g := (mkF m 106 #[.val (.int im), .val (.int ib), .val (.int i0), .val (.int i1), .val (.int i2), .val (.long ga), .second, .val (.int (im &&& (3 : Int32))), .val (.int (1 : Int32)), .val (.int (1 : Int32)), .val (.ref b1), .val (.long s0), .second, .unset, .unset, .unset, .unset, .unset, .unset, .unset, .unset, .unset, .unset, .unset, .unset, .unset, .unset, .unset, .unset] [(.int i0), (.long s0)])) rfl (hb hby at_106) _ ?_
    show Steps p.tables e below (T17.setTop (mkF m 108 #[.val (.int im), .val (.int ib), .val (.int i0), .val (.int i1), .val (.int i2), .val (.long ga), .second, .val (.int (im &&& (3 : Int32))), .val (.int (1 : Int32)), .val (.int (1 : Int32)), .val (.ref b1), .val (.long s0), .second, .unset, .unset, .unset, .unset, .unset, .unset, .unset, .unset, .unset, .unset, .unset, .unset, .unset, .unset, .unset, .unset] [(.int (2147483647 : Int32)), (.int i0), (.long s0)])) _
    refine XS.iand X17.here hx rfl (hb hby at_108) rfl ?_
    refine XS.i2l X17.here hx rfl (hb hby at_109) rfl ?_
    refine XS.ladd X17.here hx rfl (hb hby at_110) rfl ?_
    refine XS.lstore X17.here hx rfl (hb hby at_111) rfl (l' := #[.val (.int im), .val (.int ib), .val (.int i0), .val (.int i1), .val (.int i2), .val (.long ga), .second, .val (.int (im &&& (3 : Int32))), .val (.int (1 : Int32)), .val (.int (1 : Int32)), .val (.ref b1), .val (.long s0), .second, .val (.long (s0 + ((i0 &&& (2147483647 : Int32)).toInt64))), .second, .unset, .unset, .unset, .unset, .unset, .unset, .unset, .unset, .unset, .unset, .unset, .unset, .unset, .unset]) rfl ?_
    exact kt
  obtain ⟨f0, hf0⟩ : ∃ z : Int64, z = (s0 + ((i0 &&& (2147483647 : Int32)).toInt64)) := ⟨_, rfl⟩
  have k25 : ∀ tq, Steps p.tables e below (T17.setTop (mkF m 113 #[.val (.int im), .val (.int ib), .val (.int i0), .val (.int i1), .val (.int i2), .val (.long ga), .second, .val (.int (im &&& (3 : Int32))), .val (.int (1 : Int32)), .val (.int (1 : Int32)), .val (.ref b1), .val (.long s0), .second, .val (.long f0), .second, .unset, .unset, .unset, .unset, .unset, .unset, .unset, .unset, .unset, .unset, .unset, .unset, .unset, .unset] [])) tq → Steps p.tables e below (s₁.setTop (entryFrame m #[(.int im), (.int ib), (.int i0), (.int i1), (.int i2), (.long ga)] maxLocals)) tq := by
    intro tq kt
    subst hf0
    exact k24 tq kt
  have k26 : ∀ tq, Steps p.tables e below (T17.setTop (mkF m 124 #[.val (.int im), .val (.int ib), .val (.int i0), .val (.int i1), .val (.int i2), .val (.long ga), .second, .val (.int (im &&& (3 : Int32))), .val (.int (1 : Int32)), .val (.int (1 : Int32)), .val (.ref b1), .val (.long s0), .second, .val (.long f0), .second, .val (.long (f0 + (ga &&& (1048575 : Int64)))), .second, .unset, .unset, .unset, .unset, .unset, .unset, .unset, .unset, .unset, .unset, .unset, .unset] [])) tq → Steps p.tables e below (s₁.setTop (entryFrame m #[(.int im), (.int ib), (.int i0), (.int i1), (.int i2), (.long ga)] maxLocals)) tq := by
    intro tq kt
    refine k25 tq ?_
    refine XS.lload X17.here hx rfl (hb hby at_113) rfl ?_
    refine XS.lload X17.here hx rfl (hb hby at_115) rfl ?_
    show Steps p.tables e below (T17.setTop (mkF m 117 #[.val (.int im), .val (.int ib), .val (.int i0), .val (.int i1), .val (.int i2), .val (.long ga), .second, .val (.int (im &&& (3 : Int32))), .val (.int (1 : Int32)), .val (.int (1 : Int32)), .val (.ref b1), .val (.long s0), .second, .val (.long f0), .second, .unset, .unset, .unset, .unset, .unset, .unset, .unset, .unset, .unset, .unset, .unset, .unset, .unset, .unset] [(.long ga), (.long f0)])) _
    refine X17.ldc2Long hx hown (mvT hZ (hw _ (List.mem_of_getElem? (i := 2) rfl))) (g := (mkF m 117 #[.val (.int im), .val (.int ib), .val (.int i0), .val (.int i1), .val (.int i2), .val (.long ga), .second, .val (.int (im &&& (3 : Int32))), .val (.int (1 : Int32)), .val (.int (1 : Int32)), .val (.ref b1), .val (.long s0), .second, .val (.long f0), .second, .unset, .unset, .unset, .unset, .unset, .unset, .unset, .unset, .unset, .unset, .unset, .unset, .unset, .unset] [(.long ga), (.long f0)])) rfl (hb hby at_117) _ ?_
    refine XS.land X17.here hx rfl (hb hby at_120) rfl ?_
    refine XS.ladd X17.here hx rfl (hb hby at_121) rfl ?_
    refine XS.lstore X17.here hx rfl (hb hby at_122) rfl (l' := #[.val (.int im), .val (.int ib), .val (.int i0), .val (.int i1), .val (.int i2), .val (.long ga), .second, .val (.int (im &&& (3 : Int32))), .val (.int (1 : Int32)), .val (.int (1 : Int32)), .val (.ref b1), .val (.long s0), .second, .val (.long f0), .second, .val (.long (f0 + (ga &&& (1048575 : Int64)))), .second, .unset, .unset, .unset, .unset, .unset, .unset, .unset, .unset, .unset, .unset, .unset, .unset]) rfl ?_
    exact kt
  obtain ⟨s1, hs1⟩ : ∃ z : Int64, z = (f0 + (ga &&& (1048575 : Int64))) := ⟨_, rfl⟩
  have k27 : ∀ tq, Steps p.tables e below (T17.setTop (mkF m 124 #[.val (.int im), .val (.int ib), .val (.int i0), .val (.int i1), .val (.int i2), .val (.long ga), .second, .val (.int (im &&& (3 : Int32))), .val (.int (1 : Int32)), .val (.int (1 : Int32)), .val (.ref b1), .val (.long s0), .second, .val (.long f0), .second, .val (.long s1), .second, .unset, .unset, .unset, .unset, .unset, .unset, .unset, .unset, .unset, .unset, .unset, .unset] [])) tq → Steps p.tables e below (s₁.setTop (entryFrame m #[(.int im), (.int ib), (.int i0), (.int i1), (.int i2), (.long ga)] maxLocals)) tq := by
    intro tq kt
    subst hs1
    exact k26 tq kt
  have k28 : ∀ tq, Steps p.tables e below (T17.setTop (mkF m 134 #[.val (.int im), .val (.int ib), .val (.int i0), .val (.int i1), .val (.int i2), .val (.long ga), .second, .val (.int (im &&& (3 : Int32))), .val (.int (1 : Int32)), .val (.int (1 : Int32)), .val (.ref b1), .val (.long s0), .second, .val (.long f0), .second, .val (.long s1), .second, .val (.long (s1 + ((i1 &&& (2147483647 : Int32)).toInt64))), .second, .unset, .unset, .unset, .unset, .unset, .unset, .unset, .unset, .unset, .unset] [])) tq → Steps p.tables e below (s₁.setTop (entryFrame m #[(.int im), (.int ib), (.int i0), (.int i1), (.int i2), (.long ga)] maxLocals)) tq := by
    intro tq kt
    refine k27 tq ?_
    refine XS.lload X17.here hx rfl (hb hby at_124) rfl ?_
    refine XS.iloadN X17.here hx rfl (hb hby at_126) rfl ?_
    show Steps p.tables e below (T17.setTop (mkF m 127 #[.val (.int im), .val (.int ib), .val (.int i0), .val (.int i1), .val (.int i2), .val (.long ga), .second, .val (.int (im &&& (3 : Int32))), .val (.int (1 : Int32)), .val (.int (1 : Int32)), .val (.ref b1), .val (.long s0), .second, .val (.long f0), .second, .val (.long s1), .second, .unset, .unset, .unset, .unset, .unset, .unset, .unset, .unset, .unset, .unset, .unset, .unset] [(.int i1), (.long s1)])) _
    refine X17.ldcInt hx hown (mvT hZ (hw _ (List.mem_of_getElem? (i := 1) rfl))) (g := (mkF m 127 #[.val (.int im), .val (.int ib), .val (.int i0), .val (.int i1), .val (.int i2), .val (.long ga), .second, .val (.int (im &&& (3 : Int32))), .val (.int (1 : Int32)), .val (.int (1 : Int32)), .val (.ref b1), .val (.long s0), .second, .val (.long f0), .second, .val (.long s1), .second, .unset, .unset, .unset, .unset, .unset, .unset, .unset, .unset, .unset, .unset, .unset, .unset] [(.int i1), (.long s1)])) rfl (hb hby at_127) _ ?_
    refine XS.iand X17.here hx rfl (hb hby at_129) rfl ?_
    refine XS.i2l X17.here hx rfl (hb hby at_130) rfl ?_
    refine XS.ladd X17.here hx rfl (hb hby at_131) rfl ?_
    refine XS.lstore X17.here hx rfl (hb hby at_132) rfl (l' := #[.val (.int im), .val (.int ib), .val (.int i0), .val (.int i1), .val (.int i2), .val (.long ga), .second, .val (.int (im &&& (3 : Int32))), .val (.int (1 : Int32)), .val (.int (1 : Int32)), .val (.ref b1), .val (.long s0), .second, .val (.long f0), .second, .val (.long s1), .second, .val (.long (s1 + ((i1 &&& (2147483647 : Int32)).toInt64))), .second, .unset, .unset, .unset, .unset, .unset, .unset, .unset, .unset, .unset, .unset]) rfl ?_
    exact kt
  obtain ⟨f1, hf1⟩ : ∃ z : Int64, z = (s1 + ((i1 &&& (2147483647 : Int32)).toInt64)) := ⟨_, rfl⟩
  have k29 : ∀ tq, Steps p.tables e below (T17.setTop (mkF m 134 #[.val (.int im), .val (.int ib), .val (.int i0), .val (.int i1), .val (.int i2), .val (.long ga), .second, .val (.int (im &&& (3 : Int32))), .val (.int (1 : Int32)), .val (.int (1 : Int32)), .val (.ref b1), .val (.long s0), .second, .val (.long f0), .second, .val (.long s1), .second, .val (.long f1), .second, .unset, .unset, .unset, .unset, .unset, .unset, .unset, .unset, .unset, .unset] [])) tq → Steps p.tables e below (s₁.setTop (entryFrame m #[(.int im), (.int ib), (.int i0), (.int i1), (.int i2), (.long ga)] maxLocals)) tq := by
    intro tq kt
    subst hf1
    exact k28 tq kt
  have k30 : ∀ tq, Steps p.tables e below (T17.setTop (mkF m 148 #[.val (.int im), .val (.int ib), .val (.int i0), .val (.int i1), .val (.int i2), .val (.long ga), .second, .val (.int (im &&& (3 : Int32))), .val (.int (1 : Int32)), .val (.int (1 : Int32)), .val (.ref b1), .val (.long s0), .second, .val (.long f0), .second, .val (.long s1), .second, .val (.long f1), .second, .val (.long (f1 + (((ga.toUInt64 >>> ((20 : Int32) &&& 0x3f).toInt64.toUInt64).toInt64) &&& (1048575 : Int64)))), .second, .unset, .unset, .unset, .unset, .unset, .unset, .unset, .unset] [])) tq → Steps p.tables e below (s₁.setTop (entryFrame m #[(.int im), (.int ib), (.int i0), (.int i1), (.int i2), (.long ga)] maxLocals)) tq := by
    intro tq kt
    refine k29 tq ?_
    refine XS.lload X17.here hx rfl (hb hby at_134) rfl ?_
    show Steps p.tables e below (T17.setTop (mkF m 136 #[.val (.int im), .val (.int ib), .val (.int i0), .val (.int i1), .val (.int i2), .val (.long ga), .second, .val (.int (im &&& (3 : Int32))), .val (.int (1 : Int32)), .val (.int (1 : Int32)), .val (.ref b1), .val (.long s0), .second, .val (.long f0), .second, .val (.long s1), .second, .val (.long f1), .second, .unset, .unset, .unset, .unset, .unset, .unset, .unset, .unset, .unset, .unset] [(.long f1)])) _
    refine XS.lload X17.here hx rfl (hb hby at_136) rfl ?_
    refine XS.bipush X17.here hx rfl (hb hby at_138) ?_
    refine XS.lushr X17.here hx rfl (hb hby at_140) rfl ?_
    show Steps p.tables e below (T17.setTop (mkF m 141 #[.val (.int im), .val (.int ib), .val (.int i0), .val (.int i1), .val (.int i2), .val (.long ga), .second, .val (.int (im &&& (3 : Int32))), .val (.int (1 : Int32)), .val (.int (1 : Int32)), .val (.ref b1), .val (.long s0), .second, .val (.long f0), .second, .val (.long s1), .second, .val (.long f1), .second, .unset, .unset, .unset, .unset, .unset, .unset, .unset, .unset, .unset, .unset] [(.long ((ga.toUInt64 >>> ((20 : Int32) &&& 0x3f).toInt64.toUInt64).toInt64)), (.long f1)])) _
    refine X17.ldc2Long hx hown (mvT hZ (hw _ (List.mem_of_getElem? (i := 2) rfl))) (g := (mkF m 141 #[.val (.int im), .val (.int ib), .val (.int i0), .val (.int i1), .val (.int i2), .val (.long ga), .second, .val (.int (im &&& (3 : Int32))), .val (.int (1 : Int32)), .val (.int (1 : Int32)), .val (.ref b1), .val (.long s0), .second, .val (.long f0), .second, .val (.long s1), .second, .val (.long f1), .second, .unset, .unset, .unset, .unset, .unset, .unset, .unset, .unset, .unset, .unset] [(.long ((ga.toUInt64 >>> ((20 : Int32) &&& 0x3f).toInt64.toUInt64).toInt64)), (.long f1)])) rfl (hb hby at_141) _ ?_
    refine XS.land X17.here hx rfl (hb hby at_144) rfl ?_
    refine XS.ladd X17.here hx rfl (hb hby at_145) rfl ?_
    show Steps p.tables e below (T17.setTop (mkF m 146 #[.val (.int im), .val (.int ib), .val (.int i0), .val (.int i1), .val (.int i2), .val (.long ga), .second, .val (.int (im &&& (3 : Int32))), .val (.int (1 : Int32)), .val (.int (1 : Int32)), .val (.ref b1), .val (.long s0), .second, .val (.long f0), .second, .val (.long s1), .second, .val (.long f1), .second, .unset, .unset, .unset, .unset, .unset, .unset, .unset, .unset, .unset, .unset] [(.long (f1 + (((ga.toUInt64 >>> ((20 : Int32) &&& 0x3f).toInt64.toUInt64).toInt64) &&& (1048575 : Int64))))])) _
    refine XS.lstore X17.here hx rfl (hb hby at_146) rfl (l' := #[.val (.int im), .val (.int ib), .val (.int i0), .val (.int i1), .val (.int i2), .val (.long ga), .second, .val (.int (im &&& (3 : Int32))), .val (.int (1 : Int32)), .val (.int (1 : Int32)), .val (.ref b1), .val (.long s0), .second, .val (.long f0), .second, .val (.long s1), .second, .val (.long f1), .second, .val (.long (f1 + (((ga.toUInt64 >>> ((20 : Int32) &&& 0x3f).toInt64.toUInt64).toInt64) &&& (1048575 : Int64)))), .second, .unset, .unset, .unset, .unset, .unset, .unset, .unset, .unset]) rfl ?_
    exact kt
  obtain ⟨s2, hs2⟩ : ∃ z : Int64, z = (f1 + (((ga.toUInt64 >>> ((20 : Int32) &&& 0x3f).toInt64.toUInt64).toInt64) &&& (1048575 : Int64))) := ⟨_, rfl⟩
  have k31 : ∀ tq, Steps p.tables e below (T17.setTop (mkF m 148 #[.val (.int im), .val (.int ib), .val (.int i0), .val (.int i1), .val (.int i2), .val (.long ga), .second, .val (.int (im &&& (3 : Int32))), .val (.int (1 : Int32)), .val (.int (1 : Int32)), .val (.ref b1), .val (.long s0), .second, .val (.long f0), .second, .val (.long s1), .second, .val (.long f1), .second, .val (.long s2), .second, .unset, .unset, .unset, .unset, .unset, .unset, .unset, .unset] [])) tq → Steps p.tables e below (s₁.setTop (entryFrame m #[(.int im), (.int ib), (.int i0), (.int i1), (.int i2), (.long ga)] maxLocals)) tq := by
    intro tq kt
    subst hs2
    exact k30 tq kt
  have k32 : ∀ tq, Steps p.tables e below (T17.setTop (mkF m 159 #[.val (.int im), .val (.int ib), .val (.int i0), .val (.int i1), .val (.int i2), .val (.long ga), .second, .val (.int (im &&& (3 : Int32))), .val (.int (1 : Int32)), .val (.int (1 : Int32)), .val (.ref b1), .val (.long s0), .second, .val (.long f0), .second, .val (.long s1), .second, .val (.long f1), .second, .val (.long s2), .second, .val (.long (s2 + ((i2 &&& (2147483647 : Int32)).toInt64))), .second, .unset, .unset, .unset, .unset, .unset, .unset] [])) tq → Steps p.tables e below (s₁.setTop (entryFrame m #[(.int im), (.int ib), (.int i0), (.int i1), (.int i2), (.long ga)] maxLocals)) tq := by
    intro tq kt
    refine k31 tq ?_
    refine XS.lload X17.here hx rfl (hb hby at_148) rfl ?_
    refine XS.iload X17.here hx rfl (hb hby at_150) rfl ?_
    show Steps p.tables e below (T17.setTop (mkF m 152 #[.val (.int im), .val (.int ib), .val (.int i0), .val (.int i1), .val (.int i2), .val (.long ga), .second, .val (.int (im &&& (3 : Int32))), .val (.int (1 : Int32)), .val (.int (1 : Int32)), .val (.ref b1), .val (.long s0), .second, .val (.long f0), .second, .val (.long s1), .second, .val (.long f1), .second, .val (.long s2), .second, .unset, .unset, .unset, .unset, .unset, .unset, .unset, .unset] [(.int i2), (.long s2)])) _
    refine X17.ldcInt hx hown (mvT hZ (hw _ (List.mem_of_getElem? (i := 1) rfl))) (g := (mkF m 152 #[.val (.int im), .val (.int ib), .val (.int i0), .val (.int i1), .val (.int i2), .val (.long ga), .second, .val (.int (im &&& (3 : Int32))), .val (.int (1 : Int32)), .val (.int (1 : Int32)), .val (.ref b1), .val (.long s0), .second, .val (.long f0), .second, .val (.long s1), .second, .val (.long f1), .second, .val (.long s2), .second, .unset, .unset, .unset, .unset, .unset, .unset, .unset, .unset] [(.int i2), (.long s2)])) rfl (hb hby at_152) _ ?_
    refine XS.iand X17.here hx rfl (hb hby at_154) rfl ?_
    refine XS.i2l X17.here hx rfl (hb hby at_155) rfl ?_
    show Steps p.tables e below (T17.setTop (mkF m 156 #[.val (.int im), .val (.int ib), .val (.int i0), .val (.int i1), .val (.int i2), .val (.long ga), .second, .val (.int (im &&& (3 : Int32))), .val (.int (1 : Int32)), .val (.int (1 : Int32)), .val (.ref b1), .val (.long s0), .second, .val (.long f0), .second, .val (.long s1), .second, .val (.long f1), .second, .val (.long s2), .second, .unset, .unset, .unset, .unset, .unset, .unset, .unset, .unset] [(.long ((i2 &&& (2147483647 : Int32)).toInt64)), (.long s2)])) _
    refine XS.ladd X17.here hx rfl (hb hby at_156) rfl ?_
    refine XS.lstore X17.here hx rfl (hb hby at_157) rfl (l' := #[.val (.int im), .val (.int ib), .val (.int i0), .val (.int i1), .val (.int i2), .val (.long ga), .second, .val (.int (im &&& (3 : Int32))), .val (.int (1 : Int32)), .val (.int (1 : Int32)), .val (.ref b1), .val (.long s0), .second, .val (.long f0), .second, .val (.long s1), .second, .val (.long f1), .second, .val (.long s2), .second, .val (.long (s2 + ((i2 &&& (2147483647 : Int32)).toInt64))), .second, .unset, .unset, .unset, .unset, .unset, .unset]) rfl ?_
    exact kt
  obtain ⟨f2, hf2⟩ : ∃ z : Int64, z = (s2 + ((i2 &&& (2147483647 : Int32)).toInt64)) := ⟨_, rfl⟩
  have k33 : ∀ tq, Steps p.tables e below (T17.setTop (mkF m 159 #[.val (.int im), .val (.int ib), .val (.int i0), .val (.int i1), .val (.int i2), .val (.long ga), .second, .val (.int (im &&& (3 : Int32))), .val (.int (1 : Int32)), .val (.int (1 : Int32)), .val (.ref b1), .val (.long s0), .second, .val (.long f0), .second, .val (.long s1), .second, .val (.long f1), .second, .val (.long s2), .second, .val (.long f2), .second, .unset, .unset, .unset, .unset, .unset, .unset] [])) tq → Steps p.tables e below (s₁.setTop (entryFrame m #[(.int im), (.int ib), (.int i0), (.int i1), (.int i2), (.long ga)] maxLocals)) tq := by
    intro tq kt
    subst hf2
    exact k32 tq kt
  subst hs0
  have ho := own_order hf0 hs1 hf1 hs2 hf2
  obtain ⟨T34, h34, k34, X34, e34, E34, A34, st34⟩ := newP X17 hx hZ (hw _ (List.mem_of_getElem? (i := 3) rfl)) e17 (g := (mkF m 160 #[.val (.int im), .val (.int ib), .val (.int i0), .val (.int i1), .val (.int i2), .val (.long ga), .second, .val (.int (im &&& (3 : Int32))), .val (.int (1 : Int32)), .val (.int (1 : Int32)), .val (.ref b1), .val (.long (ib.toInt64)), .second, .val (.long f0), .second, .val (.long s1), .second, .val (.long f1), .second, .val (.long s2), .second, .val (.long f2), .second, .unset, .unset, .unset, .unset, .unset, .unset] [(.int (3 : Int32))])) rfl (hb hby at_160) rfl (by decide) (cap := 3) (by decide) (by decide) (by decide) (by decide)
  obtain ⟨b34, g34⟩ : ∃ z, z = h17.size := ⟨_, rfl⟩
  rw [← g34] at A34 st34
  have ne_b1_b34 : b1 ≠ b34 := Nat.ne_of_lt (Nat.lt_of_lt_of_le v18.lt (Nat.le_of_eq g34.symm))
  have g_b34 : n0 ≤ b34 := Nat.le_trans z20 (Nat.le_of_eq g34.symm)
  have sz_b34 : h0.size ≤ b34 := Nat.le_trans kp19.1 (Nat.le_of_eq g34.symm)
  have f35 := v18.ext E34
  have z36 := Nat.le_trans z20 E34.1
  have kp37 := kp19.ext E34
  have V_b34 : Arv Z h34 b34 k34 .double (3 : Int32) [(.double (0 : UInt64)), (.double (0 : UInt64)), (.double (0 : UInt64))] (.double (0 : UInt64)) := (Arv.new A34 (by decide)).pad (pad_rep [] (.double (0 : UInt64)) 3)
  obtain ⟨T38, h38, k38, X38, e38, E38, A38, st38⟩ := newP X34 hx hZ (hw _ (List.mem_of_getElem? (i := 3) rfl)) e34 (g := (mkF m 165 #[.val (.int im), .val (.int ib), .val (.int i0), .val (.int i1), .val (.int i2), .val (.long ga), .second, .val (.int (im &&& (3 : Int32))), .val (.int (1 : Int32)), .val (.int (1 : Int32)), .val (.ref b1), .val (.long (ib.toInt64)), .second, .val (.long f0), .second, .val (.long s1), .second, .val (.long f1), .second, .val (.long s2), .second, .val (.long f2), .second, .val (.ref b34), .unset, .unset, .unset, .unset, .unset] [(.int (3 : Int32))])) rfl (hb hby at_165) rfl (by decide) (cap := 3) (by decide) (by decide) (by decide) (by decide)
  obtain ⟨b38, g38⟩ : ∃ z, z = h34.size := ⟨_, rfl⟩
  rw [← g38] at A38 st38
  have ne_b1_b38 : b1 ≠ b38 := Nat.ne_of_lt (Nat.lt_of_lt_of_le f35.lt (Nat.le_of_eq g38.symm))
  have ne_b34_b38 : b34 ≠ b38 := Nat.ne_of_lt (Nat.lt_of_lt_of_le V_b34.lt (Nat.le_of_eq g38.symm))
  have g_b38 : n0 ≤ b38 := Nat.le_trans z36 (Nat.le_of_eq g38.symm)
  have sz_b38 : h0.size ≤ b38 := Nat.le_trans kp37.1 (Nat.le_of_eq g38.symm)
  have f39 := f35.ext E38
  have f40 := V_b34.ext E38
  have z41 := Nat.le_trans z36 E38.1
  have kp42 := kp37.ext E38
  have V_b38 : Arv Z h38 b38 k38 .double (3 : Int32) [(.double (0 : UInt64)), (.double (0 : UInt64)), (.double (0 : UInt64))] (.double (0 : UInt64)) := (Arv.new A38 (by decide)).pad (pad_rep [] (.double (0 : UInt64)) 3)
  obtain ⟨T43, h43, k43, X43, e43, E43, A43, st43⟩ := newP X38 hx hZ (hw _ (List.mem_of_getElem? (i := 4) rfl)) e38 (g := (mkF m 170 #[.val (.int im), .val (.int ib), .val (.int i0), .val (.int i1), .val (.int i2), .val (.long ga), .second, .val (.int (im &&& (3 : Int32))), .val (.int (1 : Int32)), .val (.int (1 : Int32)), .val (.ref b1), .val (.long (ib.toInt64)), .second, .val (.long f0), .second, .val (.long s1), .second, .val (.long f1), .second, .val (.long s2), .second, .val (.long f2), .second, .val (.ref b34), .val (.ref b38), .unset, .unset, .unset, .unset] [(.int (3 : Int32))])) rfl (hb hby at_170) rfl (by decide) (cap := 3) (by decide) (by decide) (by decide) (by decide)
  obtain ⟨b43, g43⟩ : ∃ z, z = h38.size := ⟨_, rfl⟩
  rw [← g43] at A43 st43
  have ne_b1_b43 : b1 ≠ b43 := Nat.ne_of_lt (Nat.lt_of_lt_of_le f39.lt (Nat.le_of_eq g43.symm))
  have ne_b34_b43 : b34 ≠ b43 := Nat.ne_of_lt (Nat.lt_of_lt_of_le f40.lt (Nat.le_of_eq g43.symm))
  have ne_b38_b43 : b38 ≠ b43 := Nat.ne_of_lt (Nat.lt_of_lt_of_le V_b38.lt (Nat.le_of_eq g43.symm))
  have g_b43 : n0 ≤ b43 := Nat.le_trans z41 (Nat.le_of_eq g43.symm)
  have sz_b43 : h0.size ≤ b43 := Nat.le_trans kp42.1 (Nat.le_of_eq g43.symm)
  have f44 := f39.ext E43
  have f45 := f40.ext E43
  have f46 := V_b38.ext E43
  have z47 := Nat.le_trans z41 E43.1
  have kp48 := kp42.ext E43
  have V_b43 : Arv Z h43 b43 k43 .long (3 : Int32) [(.long (0 : Int64)), (.long (0 : Int64)), (.long (0 : Int64))] (.long (0 : Int64)) := (Arv.new A43 (by decide)).pad (pad_rep [] (.long (0 : Int64)) 3)
  obtain ⟨clq49, Arq49, cq49, Sq49, nq49, Hq49, Gq49⟩ := id f44
  have hiq49 : ¬ ((0 : Int32) < 0 ∨ clq49.slots.size ≤ ((0 : Int32)).toNatClampNeg) := inb_of Sq49 ⟨by decide, by decide⟩
  have haq49 : clq49.slots[((0 : Int32)).toNatClampNeg]? = some (.int (0 : Int32)) := Hq49.at hiq49 rfl
  obtain ⟨clq50, Arq50, cq50, Sq50, nq50, Hq50, Gq50⟩ := id f45
  have hiq50 : ¬ ((0 : Int32) < 0 ∨ clq50.slots.size ≤ ((0 : Int32)).toNatClampNeg) := inb_of Sq50 ⟨by decide, by decide⟩
  obtain ⟨T51, h51, X51, e51, W51, st51⟩ := stD X43 hx hZ e43 Arq50 (j := (0 : Int32)) hiq50 (g := (mkF m 183 #[.val (.int im), .val (.int ib), .val (.int i0), .val (.int i1), .val (.int i2), .val (.long ga), .second, .val (.int (im &&& (3 : Int32))), .val (.int (1 : Int32)), .val (.int (1 : Int32)), .val (.ref b1), .val (.long (ib.toInt64)), .second, .val (.long f0), .second, .val (.long s1), .second, .val (.long f1), .second, .val (.long s2), .second, .val (.long f2), .second, .val (.ref b34), .val (.ref b38), .val (.ref b43), .unset, .unset, .unset] [(.double (FP.l2d (ib.toInt64))), (.int (0 : Int32)), (.ref b34)])) rfl rfl (hb hby at_183)
  have v52 : Arv Z h51 b34 k34 .double (3 : Int32) [(.double (FP.l2d (ib.toInt64))), (.double (0 : UInt64)), (.double (0 : UInt64))] (.double (0 : UInt64)) := Arv.set Arq50 cq50 Sq50 nq50 Hq50 Gq50 rfl W51 0 rfl (Nat.le_of_ble_eq_true rfl)
  have f53 := f44.other W51 ne_b1_b34
  have f54 := f46.other W51 (Ne.symm ne_b34_b38)
  have f55 := V_b43.other W51 (Ne.symm ne_b34_b43)
  have kp56 := kp48.wr W51 (Or.inr sz_b34)
  have z57 := Nat.le_trans z47 (Keep.of_wr W51).1
  have N58 := Fr.snoc X51 N21 g_b34
  obtain ⟨clq59, Arq59, cq59, Sq59, nq59, Hq59, Gq59⟩ := id f53
  have hiq59 : ¬ ((0 : Int32) < 0 ∨ clq59.slots.size ≤ ((0 : Int32)).toNatClampNeg) := inb_of Sq59 ⟨by decide, by decide⟩
  have haq59 : clq59.slots[((0 : Int32)).toNatClampNeg]? = some (.int (0 : Int32)) := Hq59.at hiq59 rfl
  obtain ⟨clq60, Arq60, cq60, Sq60, nq60, Hq60, Gq60⟩ := id f54
  have hiq60 : ¬ ((0 : Int32) < 0 ∨ clq60.slots.size ≤ ((0 : Int32)).toNatClampNeg) := inb_of Sq60 ⟨by decide, by decide⟩
  obtain ⟨T61, h61, X61, e61, W61, st61⟩ := stD X51 hx hZ e51 Arq60 (j := (0 : Int32)) hiq60 (g := (mkF m 193 #[.val (.int im), .val (.int ib), .val (.int i0), .val (.int i1), .val (.int i2), .val (.long ga), .second, .val (.int (im &&& (3 : Int32))), .val (.int (1 : Int32)), .val (.int (1 : Int32)), .val (.ref b1), .val (.long (ib.toInt64)), .second, .val (.long f0), .second, .val (.long s1), .second, .val (.long f1), .second, .val (.long s2), .second, .val (.long f2), .second, .val (.ref b34), .val (.ref b38), .val (.ref b43), .unset, .unset, .unset] [(.double (FP.l2d f0)), (.int (0 : Int32)), (.ref b38)])) rfl rfl (hb hby at_193)
  have v62 : Arv Z h61 b38 k38 .double (3 : Int32) [(.double (FP.l2d f0)), (.double (0 : UInt64)), (.double (0 : UInt64))] (.double (0 : UInt64)) := Arv.set Arq60 cq60 Sq60 nq60 Hq60 Gq60 rfl W61 0 rfl (Nat.le_of_ble_eq_true rfl)
  have f63 := f53.other W61 ne_b1_b38
  have f64 := f55.other W61 (Ne.symm ne_b38_b43)
  have f65 := v52.other W61 ne_b34_b38
  have kp66 := kp56.wr W61 (Or.inr sz_b38)
  have z67 := Nat.le_trans z57 (Keep.of_wr W61).1
  have N68 := Fr.snoc X61 N58 g_b38
  obtain ⟨clq69, Arq69, cq69, Sq69, nq69, Hq69, Gq69⟩ := id f63
  have hiq69 : ¬ ((0 : Int32) < 0 ∨ clq69.slots.size ≤ ((0 : Int32)).toNatClampNeg) := inb_of Sq69 ⟨by decide, by decide⟩
  have haq69 : clq69.slots[((0 : Int32)).toNatClampNeg]? = some (.int (0 : Int32)) := Hq69.at hiq69 rfl
  obtain ⟨clq70, Arq70, cq70, Sq70, nq70, Hq70, Gq70⟩ := id f64
  have hiq70 : ¬ ((0 : Int32) < 0 ∨ clq70.slots.size ≤ ((0 : Int32)).toNatClampNeg) := inb_of Sq70 ⟨by decide, by decide⟩
  obtain ⟨T71, h71, X71, e71, W71, st71⟩ := stJ X61 hx hZ e61 Arq70 (j := (0 : Int32)) hiq70 (g := (mkF m 202 #[.val (.int im), .val (.int ib), .val (.int i0), .val (.int i1), .val (.int i2), .val (.long ga), .second, .val (.int (im &&& (3 : Int32))), .val (.int (1 : Int32)), .val (.int (1 : Int32)), .val (.ref b1), .val (.long (ib.toInt64)), .second, .val (.long f0), .second, .val (.long s1), .second, .val (.long f1), .second, .val (.long s2), .second, .val (.long f2), .second, .val (.ref b34), .val (.ref b38), .val (.ref b43), .unset, .unset, .unset] [(.long f0), (.int (0 : Int32)), (.ref b43)])) rfl rfl (hb hby at_202)
  have v72 : Arv Z h71 b43 k43 .long (3 : Int32) [(.long f0), (.long (0 : Int64)), (.long (0 : Int64))] (.long (0 : Int64)) := Arv.set Arq70 cq70 Sq70 nq70 Hq70 Gq70 rfl W71 0 rfl (Nat.le_of_ble_eq_true rfl)
  have f73 := f63.other W71 ne_b1_b43
  have f74 := f65.other W71 ne_b34_b43
  have f75 := v62.other W71 ne_b38_b43
  have kp76 := kp66.wr W71 (Or.inr sz_b43)
  have z77 := Nat.le_trans z67 (Keep.of_wr W71).1
  have N78 := Fr.snoc X71 N68 g_b43
  obtain ⟨clq79, Arq79, cq79, Sq79, nq79, Hq79, Gq79⟩ := id f73
  have hiq79 : ¬ ((1 : Int32) < 0 ∨ clq79.slots.size ≤ ((1 : Int32)).toNatClampNeg) := inb_of Sq79 ⟨by decide, by decide⟩
  have haq79 : clq79.slots[((1 : Int32)).toNatClampNeg]? = some (.int (1 : Int32)) := Hq79.at hiq79 rfl
  obtain ⟨clq80, Arq80, cq80, Sq80, nq80, Hq80, Gq80⟩ := id f74
  have hiq80 : ¬ ((1 : Int32) < 0 ∨ clq80.slots.size ≤ ((1 : Int32)).toNatClampNeg) := inb_of Sq80 ⟨by decide, by decide⟩
  obtain ⟨T81, h81, X81, e81, W81, st81⟩ := stD X71 hx hZ e71 Arq80 (j := (1 : Int32)) hiq80 (g := (mkF m 212 #[.val (.int im), .val (.int ib), .val (.int i0), .val (.int i1), .val (.int i2), .val (.long ga), .second, .val (.int (im &&& (3 : Int32))), .val (.int (1 : Int32)), .val (.int (1 : Int32)), .val (.ref b1), .val (.long (ib.toInt64)), .second, .val (.long f0), .second, .val (.long s1), .second, .val (.long f1), .second, .val (.long s2), .second, .val (.long f2), .second, .val (.ref b34), .val (.ref b38), .val (.ref b43), .unset, .unset, .unset] [(.double (FP.l2d s1)), (.int (1 : Int32)), (.ref b34)])) rfl rfl (hb hby at_212)
  have v82 : Arv Z h81 b34 k34 .double (3 : Int32) [(.double (FP.l2d (ib.toInt64))), (.double (FP.l2d s1)), (.double (0 : UInt64))] (.double (0 : UInt64)) := Arv.set Arq80 cq80 Sq80 nq80 Hq80 Gq80 rfl W81 1 rfl (Nat.le_of_ble_eq_true rfl)
  have f83 := f73.other W81 ne_b1_b34
  have f84 := f75.other W81 (Ne.symm ne_b34_b38)
  have f85 := v72.other W81 (Ne.symm ne_b34_b43)
  have kp86 := kp76.wr W81 (Or.inr sz_b34)
  have z87 := Nat.le_trans z77 (Keep.of_wr W81).1
  have N88 := Fr.snoc X81 N78 g_b34
  obtain ⟨clq89, Arq89, cq89, Sq89, nq89, Hq89, Gq89⟩ := id f83
  have hiq89 : ¬ ((1 : Int32) < 0 ∨ clq89.slots.size ≤ ((1 : Int32)).toNatClampNeg) := inb_of Sq89 ⟨by decide, by decide⟩
  have haq89 : clq89.slots[((1 : Int32)).toNatClampNeg]? = some (.int (1 : Int32)) := Hq89.at hiq89 rfl
  obtain ⟨clq90, Arq90, cq90, Sq90, nq90, Hq90, Gq90⟩ := id f84
  have hiq90 : ¬ ((1 : Int32) < 0 ∨ clq90.slots.size ≤ ((1 : Int32)).toNatClampNeg) := inb_of Sq90 ⟨by decide, by decide⟩
  obtain ⟨T91, h91, X91, e91, W91, st91⟩ := stD X81 hx hZ e81 Arq90 (j := (1 : Int32)) hiq90 (g := (mkF m 222 #[.val (.int im), .val (.int ib), .val (.int i0), .val (.int i1), .val (.int i2), .val (.long ga), .second, .val (.int (im &&& (3 : Int32))), .val (.int (1 : Int32)), .val (.int (1 : Int32)), .val (.ref b1), .val (.long (ib.toInt64)), .second, .val (.long f0), .second, .val (.long s1), .second, .val (.long f1), .second, .val (.long s2), .second, .val (.long f2), .second, .val (.ref b34), .val (.ref b38), .val (.ref b43), .unset, .unset, .unset] [(.double (FP.l2d f1)), (.int (1 : Int32)), (.ref b38)])) rfl rfl (hb hby at_222)
  have v92 : Arv Z h91 b38 k38 .double (3 : Int32) [(.double (FP.l2d f0)), (.double (FP.l2d f1)), (.double (0 : UInt64))] (.double (0 : UInt64)) := Arv.set Arq90 cq90 Sq90 nq90 Hq90 Gq90 rfl W91 1 rfl (Nat.le_of_ble_eq_true rfl)
  have f93 := f83.other W91 ne_b1_b38
  have f94 := f85.other W91 (Ne.symm ne_b38_b43)
  have f95 := v82.other W91 ne_b34_b38
  have kp96 := kp86.wr W91 (Or.inr sz_b38)
  have z97 := Nat.le_trans z87 (Keep.of_wr W91).1
  have N98 := Fr.snoc X91 N88 g_b38
  obtain ⟨clq99, Arq99, cq99, Sq99, nq99, Hq99, Gq99⟩ := id f93
  have hiq99 : ¬ ((1 : Int32) < 0 ∨ clq99.slots.size ≤ ((1 : Int32)).toNatClampNeg) := inb_of Sq99 ⟨by decide, by decide⟩
  have haq99 : clq99.slots[((1 : Int32)).toNatClampNeg]? = some (.int (1 : Int32)) := Hq99.at hiq99 rfl
  obtain ⟨clq100, Arq100, cq100, Sq100, nq100, Hq100, Gq100⟩ := id f94
  have hiq100 : ¬ ((1 : Int32) < 0 ∨ clq100.slots.size ≤ ((1 : Int32)).toNatClampNeg) := inb_of Sq100 ⟨by decide, by decide⟩
  obtain ⟨T101, h101, X101, e101, W101, st101⟩ := stJ X91 hx hZ e91 Arq100 (j := (1 : Int32)) hiq100 (g := (mkF m 231 #[.val (.int im), .val (.int ib), .val (.int i0), .val (.int i1), .val (.int i2), .val (.long ga), .second, .val (.int (im &&& (3 : Int32))), .val (.int (1 : Int32)), .val (.int (1 : Int32)), .val (.ref b1), .val (.long (ib.toInt64)), .second, .val (.long f0), .second, .val (.long s1), .second, .val (.long f1), .second, .val (.long s2), .second, .val (.long f2), .second, .val (.ref b34), .val (.ref b38), .val (.ref b43), .unset, .unset, .unset] [(.long f1), (.int (1 : Int32)), (.ref b43)])) rfl rfl (hb hby at_231)
  have v102 : Arv Z h101 b43 k43 .long (3 : Int32) [(.long f0), (.long f1), (.long (0 : Int64))] (.long (0 : Int64)) := Arv.set Arq100 cq100 Sq100 nq100 Hq100 Gq100 rfl W101 1 rfl (Nat.le_of_ble_eq_true rfl)
  have f103 := f93.other W101 ne_b1_b43
  have f104 := f95.other W101 ne_b34_b43
  have f105 := v92.other W101 ne_b38_b43
  have kp106 := kp96.wr W101 (Or.inr sz_b43)
  have z107 := Nat.le_trans z97 (Keep.of_wr W101).1
  have N108 := Fr.snoc X101 N98 g_b43
  obtain ⟨clq109, Arq109, cq109, Sq109, nq109, Hq109, Gq109⟩ := id f103
  have hiq109 : ¬ ((2 : Int32) < 0 ∨ clq109.slots.size ≤ ((2 : Int32)).toNatClampNeg) := inb_of Sq109 ⟨by decide, by decide⟩
  have haq109 : clq109.slots[((2 : Int32)).toNatClampNeg]? = some (.int (2 : Int32)) := Hq109.at hiq109 rfl
  obtain ⟨clq110, Arq110, cq110, Sq110, nq110, Hq110, Gq110⟩ := id f104
  have hiq110 : ¬ ((2 : Int32) < 0 ∨ clq110.slots.size ≤ ((2 : Int32)).toNatClampNeg) := inb_of Sq110 ⟨by decide, by decide⟩
  obtain ⟨T111, h111, X111, e111, W111, st111⟩ := stD X101 hx hZ e101 Arq110 (j := (2 : Int32)) hiq110 (g := (mkF m 241 #[.val (.int im), .val (.int ib), .val (.int i0), .val (.int i1), .val (.int i2), .val (.long ga), .second, .val (.int (im &&& (3 : Int32))), .val (.int (1 : Int32)), .val (.int (1 : Int32)), .val (.ref b1), .val (.long (ib.toInt64)), .second, .val (.long f0), .second, .val (.long s1), .second, .val (.long f1), .second, .val (.long s2), .second, .val (.long f2), .second, .val (.ref b34), .val (.ref b38), .val (.ref b43), .unset, .unset, .unset] [(.double (FP.l2d s2)), (.int (2 : Int32)), (.ref b34)])) rfl rfl (hb hby at_241)
  have v112 : Arv Z h111 b34 k34 .double (3 : Int32) [(.double (FP.l2d (ib.toInt64))), (.double (FP.l2d s1)), (.double (FP.l2d s2))] (.double (0 : UInt64)) := Arv.set Arq110 cq110 Sq110 nq110 Hq110 Gq110 rfl W111 2 rfl (Nat.le_of_ble_eq_true rfl)
  have f113 := f103.other W111 ne_b1_b34
  have f114 := f105.other W111 (Ne.symm ne_b34_b38)
  have f115 := v102.other W111 (Ne.symm ne_b34_b43)
  have kp116 := kp106.wr W111 (Or.inr sz_b34)
  have z117 := Nat.le_trans z107 (Keep.of_wr W111).1
  have N118 := Fr.snoc X111 N108 g_b34
  obtain ⟨clq119, Arq119, cq119, Sq119, nq119, Hq119, Gq119⟩ := id f113
  have hiq119 : ¬ ((2 : Int32) < 0 ∨ clq119.slots.size ≤ ((2 : Int32)).toNatClampNeg) := inb_of Sq119 ⟨by decide, by decide⟩
  have haq119 : clq119.slots[((2 : Int32)).toNatClampNeg]? = some (.int (2 : Int32)) := Hq119.at hiq119 rfl
  obtain ⟨clq120, Arq120, cq120, Sq120, nq120, Hq120, Gq120⟩ := id f114
  have hiq120 : ¬ ((2 : Int32) < 0 ∨ clq120.slots.size ≤ ((2 : Int32)).toNatClampNeg) := inb_of Sq120 ⟨by decide, by decide⟩
  obtain ⟨T121, h121, X121, e121, W121, st121⟩ := stD X111 hx hZ e111 Arq120 (j := (2 : Int32)) hiq120 (g := (mkF m 251 #[.val (.int im), .val (.int ib), .val (.int i0), .val (.int i1), .val (.int i2), .val (.long ga), .second, .val (.int (im &&& (3 : Int32))), .val (.int (1 : Int32)), .val (.int (1 : Int32)), .val (.ref b1), .val (.long (ib.toInt64)), .second, .val (.long f0), .second, .val (.long s1), .second, .val (.long f1), .second, .val (.long s2), .second, .val (.long f2), .second, .val (.ref b34), .val (.ref b38), .val (.ref b43), .unset, .unset, .unset] [(.double (FP.l2d f2)), (.int (2 : Int32)), (.ref b38)])) rfl rfl (hb hby at_251)
  have v122 : Arv Z h121 b38 k38 .double (3 : Int32) [(.double (FP.l2d f0)), (.double (FP.l2d f1)), (.double (FP.l2d f2))] (.double (0 : UInt64)) := Arv.set Arq120 cq120 Sq120 nq120 Hq120 Gq120 rfl W121 2 rfl (Nat.le_of_ble_eq_true rfl)
  have f123 := f113.other W121 ne_b1_b38
  have f124 := f115.other W121 (Ne.symm ne_b38_b43)
  have f125 := v112.other W121 ne_b34_b38
  have kp126 := kp116.wr W121 (Or.inr sz_b38)
  have z127 := Nat.le_trans z117 (Keep.of_wr W121).1
  have N128 := Fr.snoc X121 N118 g_b38
  obtain ⟨clq129, Arq129, cq129, Sq129, nq129, Hq129, Gq129⟩ := id f123
  have hiq129 : ¬ ((2 : Int32) < 0 ∨ clq129.slots.size ≤ ((2 : Int32)).toNatClampNeg) := inb_of Sq129 ⟨by decide, by decide⟩
  have haq129 : clq129.slots[((2 : Int32)).toNatClampNeg]? = some (.int (2 : Int32)) := Hq129.at hiq129 rfl
  obtain ⟨clq130, Arq130, cq130, Sq130, nq130, Hq130, Gq130⟩ := id f124
  have hiq130 : ¬ ((2 : Int32) < 0 ∨ clq130.slots.size ≤ ((2 : Int32)).toNatClampNeg) := inb_of Sq130 ⟨by decide, by decide⟩
  obtain ⟨T131, h131, X131, e131, W131, st131⟩ := stJ X121 hx hZ e121 Arq130 (j := (2 : Int32)) hiq130 (g := (mkF m 260 #[.val (.int im), .val (.int ib), .val (.int i0), .val (.int i1), .val (.int i2), .val (.long ga), .second, .val (.int (im &&& (3 : Int32))), .val (.int (1 : Int32)), .val (.int (1 : Int32)), .val (.ref b1), .val (.long (ib.toInt64)), .second, .val (.long f0), .second, .val (.long s1), .second, .val (.long f1), .second, .val (.long s2), .second, .val (.long f2), .second, .val (.ref b34), .val (.ref b38), .val (.ref b43), .unset, .unset, .unset] [(.long f2), (.int (2 : Int32)), (.ref b43)])) rfl rfl (hb hby at_260)
  have v132 : Arv Z h131 b43 k43 .long (3 : Int32) [(.long f0), (.long f1), (.long f2)] (.long (0 : Int64)) := Arv.set Arq130 cq130 Sq130 nq130 Hq130 Gq130 rfl W131 2 rfl (Nat.le_of_ble_eq_true rfl)
  have f133 := f123.other W131 ne_b1_b43
  have f134 := f125.other W131 ne_b34_b43
  have f135 := v122.other W131 ne_b38_b43
  have kp136 := kp126.wr W131 (Or.inr sz_b43)
  have z137 := Nat.le_trans z127 (Keep.of_wr W131).1
  have N138 := Fr.snoc X131 N128 g_b43
  obtain ⟨T139, h139, X139, e139, E139, A139, D139, U139, st139⟩ := newO X131 hx hZ hown (hw _ (List.mem_of_getElem? (i := 5) rfl)) (hw _ (List.mem_of_getElem? (i := 6) rfl)) (hw _ (List.mem_of_getElem? (i := 7) rfl)) e131 (g := (mkF m 261 #[.val (.int im), .val (.int ib), .val (.int i0), .val (.int i1), .val (.int i2), .val (.long ga), .second, .val (.int (im &&& (3 : Int32))), .val (.int (1 : Int32)), .val (.int (1 : Int32)), .val (.ref b1), .val (.long (ib.toInt64)), .second, .val (.long f0), .second, .val (.long s1), .second, .val (.long f1), .second, .val (.long s2), .second, .val (.long f2), .second, .val (.ref b34), .val (.ref b38), .val (.ref b43), .unset, .unset, .unset] [])) rfl (hb hby at_261) (by decide) (by decide)
  obtain ⟨b139, g139⟩ : ∃ z, z = h131.size := ⟨_, rfl⟩
  rw [← g139] at A139 D139 U139 st139
  have ne_b1_b139 : b1 ≠ b139 := Nat.ne_of_lt (Nat.lt_of_lt_of_le f133.lt (Nat.le_of_eq g139.symm))
  have ne_b34_b139 : b34 ≠ b139 := Nat.ne_of_lt (Nat.lt_of_lt_of_le f134.lt (Nat.le_of_eq g139.symm))
  have ne_b38_b139 : b38 ≠ b139 := Nat.ne_of_lt (Nat.lt_of_lt_of_le f135.lt (Nat.le_of_eq g139.symm))
  have ne_b43_b139 : b43 ≠ b139 := Nat.ne_of_lt (Nat.lt_of_lt_of_le v132.lt (Nat.le_of_eq g139.symm))
  have g_b139 : n0 ≤ b139 := Nat.le_trans z137 (Nat.le_of_eq g139.symm)
  have sz_b139 : h0.size ≤ b139 := Nat.le_trans kp136.1 (Nat.le_of_eq g139.symm)
  have f140 := f133.ext E139
  have f141 := f134.ext E139
  have f142 := f135.ext E139
  have f143 := v132.ext E139
  have z144 := Nat.le_trans z137 E139.1
  have kp145 := kp136.ext E139
  have F_tasks_b139 : Fld Z h139 b139 "com/example/makespun/makespun/simulate/Timeline" "tasks" "[I" .null := D139 (Or.inl (hw _ (List.mem_of_getElem? (i := 15) rfl))) (ty := (.array .int)) (by decide)
  have F_starts_b139 : Fld Z h139 b139 "com/example/makespun/makespun/simulate/Timeline" "starts" "[D" .null := D139 (Or.inr (hw _ (List.mem_of_getElem? (i := 17) rfl))) (ty := (.array .double)) (by decide)
  have F_finishes_b139 : Fld Z h139 b139 "com/example/makespun/makespun/simulate/Timeline" "finishes" "[D" .null := D139 (Or.inr (hw _ (List.mem_of_getElem? (i := 19) rfl))) (ty := (.array .double)) (by decide)
  have F_size_b139 : Fld Z h139 b139 "com/example/makespun/makespun/simulate/Timeline" "size" "I" (.int (0 : Int32)) := D139 (Or.inl (hw _ (List.mem_of_getElem? (i := 26) rfl))) (ty := .int) (by decide)
  have F_idleIntervals_b139 : Fld Z h139 b139 "com/example/makespun/makespun/simulate/Timeline" "idleIntervals" "Ljava/util/NavigableMap;" .null := D139 (Or.inl (hw _ (List.mem_of_getElem? (i := 33) rfl))) (ty := (.object "java/util/NavigableMap")) (by decide)
  obtain ⟨_, _, ⟨T146, L146, k146, n146⟩, -, X146, ⟨Lc146, hQ146, l146, y146, z146⟩, st146⟩ := X139.specialBack hx (y := (⟨"com/example/makespun/makespun/simulate/Timeline", "<init>", "([D[D)V"⟩ : MethodName)) rfl hown (mvT hZ (hw _ (List.mem_of_getElem? (i := 8) rfl))) (mvT hZ (hw _ (List.mem_of_getElem? (i := 9) rfl))) (mvT hZ (hw _ (List.mem_of_getElem? (i := 10) rfl))) (by decide) (backOf (W := 1) (rmI l Z a0 hw [] b139 b34 b38 h139 n0 z144 A139 F_tasks_b139 F_starts_b139 F_finishes_b139 F_size_b139 F_idleIntervals_b139 g_b139) hZ (hw _ (List.mem_of_getElem? (i := 10) rfl)) (hw _ (List.mem_of_getElem? (i := 7) rfl)) (by decide) (by decide)) (g := (mkF m 269 #[.val (.int im), .val (.int ib), .val (.int i0), .val (.int i1), .val (.int i2), .val (.long ga), .second, .val (.int (im &&& (3 : Int32))), .val (.int (1 : Int32)), .val (.int (1 : Int32)), .val (.ref b1), .val (.long (ib.toInt64)), .second, .val (.long f0), .second, .val (.long s1), .second, .val (.long f1), .second, .val (.long s2), .second, .val (.long f2), .second, .val (.ref b34), .val (.ref b38), .val (.ref b43), .unset, .unset, .unset] [(.ref b38), (.ref b34), (.ref b139), (.ref b139)])) rfl (by rw [hml]; rfl) (Steps.refl _) (a := b139) (argsL := [(.ref b34), (.ref b38)]) (rest := [(.ref b139)]) (lenOf pd_0 rfl) rfl (by show 2 * 0 + _ ≤ _; exact Nat.le_of_eq rfl) (hb hby at_269) (fun _ _ => ⟨rfl, e139, (by decide : 5 + 1 ≤ _), (by decide : 17 + 4 ≤ _)⟩)
  dsimp only [Pt.U, Pt.locs, Pt.cells, Pt.slots] at X146 l146 y146 z146 st146 hQ146
  replace X146 := own_cast X146 l146 y146 z146
  obtain ⟨bt146, kb146, hv146, N146q, K146, gb146, Eo146, Ft146, Fs146, Ff146, Fi146, Vt146⟩ := hQ146
  rw [hv146] at st146
  have N146 := Fr.app N138 N146q
  have ne_b1_bt146 : b1 ≠ bt146 := Nat.ne_of_lt (Nat.lt_of_lt_of_le f140.lt gb146)
  have ne_b34_bt146 : b34 ≠ bt146 := Nat.ne_of_lt (Nat.lt_of_lt_of_le f141.lt gb146)
  have ne_b38_bt146 : b38 ≠ bt146 := Nat.ne_of_lt (Nat.lt_of_lt_of_le f142.lt gb146)
  have ne_b43_bt146 : b43 ≠ bt146 := Nat.ne_of_lt (Nat.lt_of_lt_of_le f143.lt gb146)
  have ne_b139_bt146 : b139 ≠ bt146 := Nat.ne_of_lt (Nat.lt_of_lt_of_le A139.lt gb146)
  have g_bt146 : n0 ≤ bt146 := Nat.le_trans z144 gb146
  have sz_bt146 : h0.size ≤ bt146 := Nat.le_trans kp145.1 gb146
  have f147 := f140.keep K146 (ninS ne_b1_b139 nin0)
  have f148 := f141.keep K146 (ninS ne_b34_b139 nin0)
  have f149 := f142.keep K146 (ninS ne_b38_b139 nin0)
  have f150 := f143.keep K146 (ninS ne_b43_b139 nin0)
  have f151 := A139.keep K146
  have z152 := Nat.le_trans z144 K146.1
  have kp153 := Keep.trans kp145 K146 (allS (Or.inr sz_b139) all0)
  have k154 : ∀ tq, Steps p.tables e below (T146.setTop (mkF m 274 #[.val (.int im), .val (.int ib), .val (.int i0), .val (.int i1), .val (.int i2), .val (.long ga), .second, .val (.int (im &&& (3 : Int32))), .val (.int (1 : Int32)), .val (.int (1 : Int32)), .val (.ref b1), .val (.long (ib.toInt64)), .second, .val (.long f0), .second, .val (.long s1), .second, .val (.long f1), .second, .val (.long s2), .second, .val (.long f2), .second, .val (.ref b34), .val (.ref b38), .val (.ref b43), .val (.ref b139), .unset, .unset] [])) tq → Steps p.tables e below (s₁.setTop (entryFrame m #[(.int im), (.int ib), (.int i0), (.int i1), (.int i2), (.long ga)] maxLocals)) tq := by
    intro tq kt
    refine k33 tq ?_
    refine XS.iconst X17.here hx rfl (hb hby at_159) ?_
    refine st34 _ ?_
    refine XS.astore X34.here hx rfl (hb hby at_162) rfl rfl (l' := #[.val (.int im), .val (.int ib), .val (.int i0), .val (.int i1), .val (.int i2), .val (.long ga), .second, .val (.int (im &&& (3 : Int32))), .val (.int (1 : Int32)), .val (.int (1 : Int32)), .val (.ref b1), .val (.long (ib.toInt64)), .second, .val (.long f0), .second, .val (.long s1), .second, .val (.long f1), .second, .val (.long s2), .second, .val (.long f2), .second, .val (.ref b34), .unset, .unset, .unset, .unset, .unset]) rfl ?_
    refine XS.iconst X34.here hx rfl (hb hby at_164) ?_
    show Steps p.tables e below (T34.setTop (mkF m 165 #[.val (.int im), .val (.int ib), .val (.int i0), .val (.int i1), .val (.int i2), .val (.long ga), .second, .val (.int (im &&& (3 : Int32))), .val (.int (1 : Int32)), .val (.int (1 : Int32)), .val (.ref b1), .val (.long (ib.toInt64)), .second, .val (.long f0), .second, .val (.long s1), .second, .val (.long f1), .second, .val (.long s2), .second, .val (.long f2), .second, .val (.ref b34), .unset, .unset, .unset, .unset, .unset] [(.int (3 : Int32))])) _
    refine st38 _ ?_
    refine XS.astore X38.here hx rfl (hb hby at_167) rfl rfl (l' := #[.val (.int im), .val (.int ib), .val (.int i0), .val (.int i1), .val (.int i2), .val (.long ga), .second, .val (.int (im &&& (3 : Int32))), .val (.int (1 : Int32)), .val (.int (1 : Int32)), .val (.ref b1), .val (.long (ib.toInt64)), .second, .val (.long f0), .second, .val (.long s1), .second, .val (.long f1), .second, .val (.long s2), .second, .val (.long f2), .second, .val (.ref b34), .val (.ref b38), .unset, .unset, .unset, .unset]) rfl ?_
    refine XS.iconst X38.here hx rfl (hb hby at_169) ?_
    refine st43 _ ?_
    refine XS.astore X43.here hx rfl (hb hby at_172) rfl rfl (l' := #[.val (.int im), .val (.int ib), .val (.int i0), .val (.int i1), .val (.int i2), .val (.long ga), .second, .val (.int (im &&& (3 : Int32))), .val (.int (1 : Int32)), .val (.int (1 : Int32)), .val (.ref b1), .val (.long (ib.toInt64)), .second, .val (.long f0), .second, .val (.long s1), .second, .val (.long f1), .second, .val (.long s2), .second, .val (.long f2), .second, .val (.ref b34), .val (.ref b38), .val (.ref b43), .unset, .unset, .unset]) rfl ?_
    refine XS.aload X43.here hx rfl (hb hby at_174) rfl rfl ?_
    show Steps p.tables e below (T43.setTop (mkF m 176 #[.val (.int im), .val (.int ib), .val (.int i0), .val (.int i1), .val (.int i2), .val (.long ga), .second, .val (.int (im &&& (3 : Int32))), .val (.int (1 : Int32)), .val (.int (1 : Int32)), .val (.ref b1), .val (.long (ib.toInt64)), .second, .val (.long f0), .second, .val (.long s1), .second, .val (.long f1), .second, .val (.long s2), .second, .val (.long f2), .second, .val (.ref b34), .val (.ref b38), .val (.ref b43), .unset, .unset, .unset] [(.ref b34)])) _
    refine XS.aload X43.here hx rfl (hb hby at_176) rfl rfl ?_
    refine XS.iconst X43.here hx rfl (hb hby at_178) ?_
    refine X43.iaload hx (j := (0 : Int32)) (v := (.int (0 : Int32))) (by rw [e43]; exact Arq49.1) (State.isArrayOf_alike hZ.alike Arq49.2.1) Arq49.2.2 hiq49 haq49 (g := (mkF m 179 #[.val (.int im), .val (.int ib), .val (.int i0), .val (.int i1), .val (.int i2), .val (.long ga), .second, .val (.int (im &&& (3 : Int32))), .val (.int (1 : Int32)), .val (.int (1 : Int32)), .val (.ref b1), .val (.long (ib.toInt64)), .second, .val (.long f0), .second, .val (.long s1), .second, .val (.long f1), .second, .val (.long s2), .second, .val (.long f2), .second, .val (.ref b34), .val (.ref b38), .val (.ref b43), .unset, .unset, .unset] [(.int (0 : Int32)), (.ref b1), (.ref b34)])) rfl rfl (hb hby at_179) _ ?_
    refine XS.lload X43.here hx rfl (hb hby at_180) rfl ?_
    show Steps p.tables e below (T43.setTop (mkF m 182 #[.val (.int im), .val (.int ib), .val (.int i0), .val (.int i1), .val (.int i2), .val (.long ga), .second, .val (.int (im &&& (3 : Int32))), .val (.int (1 : Int32)), .val (.int (1 : Int32)), .val (.ref b1), .val (.long (ib.toInt64)), .second, .val (.long f0), .second, .val (.long s1), .second, .val (.long f1), .second, .val (.long s2), .second, .val (.long f2), .second, .val (.ref b34), .val (.ref b38), .val (.ref b43), .unset, .unset, .unset] [(.long (ib.toInt64)), (.int (0 : Int32)), (.ref b34)])) _
    refine XS.l2dS X43.here hx rfl (hb hby at_182) rfl rfl ?_
    refine st51 _ ?_
    show Steps p.tables e below (T51.setTop (mkF m 184 #[.val (.int im), .val (.int ib), .val (.int i0), .val (.int i1), .val (.int i2), .val (.long ga), .second, .val (.int (im &&& (3 : Int32))), .val (.int (1 : Int32)), .val (.int (1 : Int32)), .val (.ref b1), .val (.long (ib.toInt64)), .second, .val (.long f0), .second, .val (.long s1), .second, .val (.long f1), .second, .val (.long s2), .second, .val (.long f2), .second, .val (.ref b34), .val (.ref b38), .val (.ref b43), .unset, .unset, .unset] [])) _
    refine XS.aload X51.here hx rfl (hb hby at_184) rfl rfl ?_
    refine XS.aload X51.here hx rfl (hb hby at_186) rfl rfl ?_
    refine XS.iconst X51.here hx rfl (hb hby at_188) ?_
    refine X51.iaload hx (j := (0 : Int32)) (v := (.int (0 : Int32))) (by rw [e51]; exact Arq59.1) (State.isArrayOf_alike hZ.alike Arq59.2.1) Arq59.2.2 hiq59 haq59 (g := (mkF m 189 #[.val (.int im), .val (.int ib), .val (.int i0), .val (.int i1), .val (.int i2), .val (.long ga), .second, .val (.int (im &&& (3 : Int32))), .val (.int (1 : Int32)), .val (.int (1 : Int32)), .val (.ref b1), .val (.long (ib.toInt64)), .second, .val (.long f0), .second, .val (.long s1), .second, .val (.long f1), .second, .val (.long s2), .second, .val (.long f2), .second, .val (.ref b34), .val (.ref b38), .val (.ref b43), .unset, .unset, .unset] [(.int (0 : Int32)), (.ref b1), (.ref b38)])) rfl rfl (hb hby at_189) _ ?_
    refine XS.lload X51.here hx rfl (hb hby at_190) rfl ?_
    show Steps p.tables e below (T51.setTop (mkF m 192 #[.val (.int im), .val (.int ib), .val (.int i0), .val (.int i1), .val (.int i2), .val (.long ga), .second, .val (.int (im &&& (3 : Int32))), .val (.int (1 : Int32)), .val (.int (1 : Int32)), .val (.ref b1), .val (.long (ib.toInt64)), .second, .val (.long f0), .second, .val (.long s1), .second, .val (.long f1), .second, .val (.long s2), .second, .val (.long f2), .second, .val (.ref b34), .val (.ref b38), .val (.ref b43), .unset, .unset, .unset] [(.long f0), (.int (0 : Int32)), (.ref b38)])) _
    refine XS.l2dS X51.here hx rfl (hb hby at_192) rfl rfl ?_
    show Steps p.tables e below (T51.setTop (mkF m 193 #[.val (.int im), .val (.int ib), .val (.int i0), .val (.int i1), .val (.int i2), .val (.long ga), .second, .val (.int (im &&& (3 : Int32))), .val (.int (1 : Int32)), .val (.int (1 : Int32)), .val (.ref b1), .val (.long (ib.toInt64)), .second, .val (.long f0), .second, .val (.long s1), .second, .val (.long f1), .second, .val (.long s2), .second, .val (.long f2), .second, .val (.ref b34), .val (.ref b38), .val (.ref b43), .unset, .unset, .unset] [(.double (FP.l2d f0)), (.int (0 : Int32)), (.ref b38)])) _
    refine st61 _ ?_
    refine XS.aload X61.here hx rfl (hb hby at_194) rfl rfl ?_
    refine XS.aload X61.here hx rfl (hb hby at_196) rfl rfl ?_
    refine XS.iconst X61.here hx rfl (hb hby at_198) ?_
    refine X61.iaload hx (j := (0 : Int32)) (v := (.int (0 : Int32))) (by rw [e61]; exact Arq69.1) (State.isArrayOf_alike hZ.alike Arq69.2.1) Arq69.2.2 hiq69 haq69 (g := (mkF m 199 #[.val (.int im), .val (.int ib), .val (.int i0), .val (.int i1), .val (.int i2), .val (.long ga), .second, .val (.int (im &&& (3 : Int32))), .val (.int (1 : Int32)), .val (.int (1 : Int32)), .val (.ref b1), .val (.long (ib.toInt64)), .second, .val (.long f0), .second, .val (.long s1), .second, .val (.long f1), .second, .val (.long s2), .second, .val (.long f2), .second, .val (.ref b34), .val (.ref b38), .val (.ref b43), .unset, .unset, .unset] [(.int (0 : Int32)), (.ref b1), (.ref b43)])) rfl rfl (hb hby at_199) _ ?_
    refine XS.lload X61.here hx rfl (hb hby at_200) rfl ?_
    show Steps p.tables e below (T61.setTop (mkF m 202 #[.val (.int im), .val (.int ib), .val (.int i0), .val (.int i1), .val (.int i2), .val (.long ga), .second, .val (.int (im &&& (3 : Int32))), .val (.int (1 : Int32)), .val (.int (1 : Int32)), .val (.ref b1), .val (.long (ib.toInt64)), .second, .val (.long f0), .second, .val (.long s1), .second, .val (.long f1), .second, .val (.long s2), .second, .val (.long f2), .second, .val (.ref b34), .val (.ref b38), .val (.ref b43), .unset, .unset, .unset] [(.long f0), (.int (0 : Int32)), (.ref b43)])) _
    refine st71 _ ?_
    refine XS.aload X71.here hx rfl (hb hby at_203) rfl rfl ?_
    refine XS.aload X71.here hx rfl (hb hby at_205) rfl rfl ?_
    refine XS.iconst X71.here hx rfl (hb hby at_207) ?_
    refine X71.iaload hx (j := (1 : Int32)) (v := (.int (1 : Int32))) (by rw [e71]; exact Arq79.1) (State.isArrayOf_alike hZ.alike Arq79.2.1) Arq79.2.2 hiq79 haq79 (g := (mkF m 208 #[.val (.int im), .val (.int ib), .val (.int i0), .val (.int i1), .val (.int i2), .val (.long ga), .second, .val (.int (im &&& (3 : Int32))), .val (.int (1 : Int32)), .val (.int (1 : Int32)), .val (.ref b1), .val (.long (ib.toInt64)), .second, .val (.long f0), .second, .val (.long s1), .second, .val (.long f1), .second, .val (.long s2), .second, .val (.long f2), .second, .val (.ref b34), .val (.ref b38), .val (.ref b43), .unset, .unset, .unset] [(.int (1 : Int32)), (.ref b1), (.ref b34)])) rfl rfl (hb hby at_208) _ ?_
    refine XS.lload X71.here hx rfl (hb hby at_209) rfl ?_
    show Steps p.tables e below (T71.setTop (mkF m 211 #[.val (.int im), .val (.int ib), .val (.int i0), .val (.int i1), .val (.int i2), .val (.long ga), .second, .val (.int (im &&& (3 : Int32))), .val (.int (1 : Int32)), .val (.int (1 : Int32)), .val (.ref b1), .val (.long (ib.toInt64)), .second, .val (.long f0), .second, .val (.long s1), .second, .val (.long f1), .second, .val (.long s2), .second, .val (.long f2), .second, .val (.ref b34), .val (.ref b38), .val (.ref b43), .unset, .unset, .unset] [(.long s1), (.int (1 : Int32)), (.ref b34)])) _
    refine XS.l2dS X71.here hx rfl (hb hby at_211) rfl rfl ?_
    refine st81 _ ?_
    refine XS.aload X81.here hx rfl (hb hby at_213) rfl rfl ?_
    refine XS.aload X81.here hx rfl (hb hby at_215) rfl rfl ?_
    refine XS.iconst X81.here hx rfl (hb hby at_217) ?_
    refine X81.iaload hx (j := (1 : Int32)) (v := (.int (1 : Int32))) (by rw [e81]; exact Arq89.1) (State.isArrayOf_alike hZ.alike Arq89.2.1) Arq89.2.2 hiq89 haq89 (g := (mkF m 218 #[.val (.int im), .val (.int ib), .val (.int i0), .val (.int i1), .val (.int i2), .val (.long ga), .second, .val (.int (im &&& (3 : Int32))), .val (.int (1 : Int32)), .val (.int (1 : Int32)), .val (.ref b1), .val (.long (ib.toInt64)), .second, .val (.long f0), .second, .val (.long s1), .second, .val (.long f1), .second, .val (.long s2), .second, .val (.long f2), .second, .val (.ref b34), .val (.ref b38), .val (.ref b43), .unset, .unset, .unset] [(.int (1 : Int32)), (.ref b1), (.ref b38)])) rfl rfl (hb hby at_218) _ ?_
    show Steps p.tables e below (T81.setTop (mkF m 219 #[.val (.int im), .val (.int ib), .val (.int i0), .val (.int i1), .val (.int i2), .val (.long ga), .second, .val (.int (im &&& (3 : Int32))), .val (.int (1 : Int32)), .val (.int (1 : Int32)), .val (.ref b1), .val (.long (ib.toInt64)), .second, .val (.long f0), .second, .val (.long s1), .second, .val (.long f1), .second, .val (.long s2), .second, .val (.long f2), .second, .val (.ref b34), .val (.ref b38), .val (.ref b43), .unset, .unset, .unset] [(.int (1 : Int32)), (.ref b38)])) _
    refine XS.lload X81.here hx rfl (hb hby at_219) rfl ?_
    show Steps p.tables e below (T81.setTop (mkF m 221 #[.val (.int im), .val (.int ib), .val (.int i0), .val (.int i1), .val (.int i2), .val (.long ga), .second, .val (.int (im &&& (3 : Int32))), .val (.int (1 : Int32)), .val (.int (1 : Int32)), .val (.ref b1), .val (.long (ib.toInt64)), .second, .val (.long f0), .second, .val (.long s1), .second, .val (.long f1), .second, .val (.long s2), .second, .val (.long f2), .second, .val (.ref b34), .val (.ref b38), .val (.ref b43), .unset, .unset, .unset] [(.long f1), (.int (1 : Int32)), (.ref b38)])) _
    refine XS.l2dS X81.here hx rfl (hb hby at_221) rfl rfl ?_
    refine st91 _ ?_
    refine XS.aload X91.here hx rfl (hb hby at_223) rfl rfl ?_
    refine XS.aload X91.here hx rfl (hb hby at_225) rfl rfl ?_
    refine XS.iconst X91.here hx rfl (hb hby at_227) ?_
    show Steps p.tables e below (T91.setTop (mkF m 228 #[.val (.int im), .val (.int ib), .val (.int i0), .val (.int i1), .val (.int i2), .val (.long ga), .second, .val (.int (im &&& (3 : Int32))), .val (.int (1 : Int32)), .val (.int (1 : Int32)), .val (.ref b1), .val (.long (ib.toInt64)), .second, .val (.long f0), .second, .val (.long s1), .second, .val (.long f1), .second, .val (.long s2), .second, .val (.long f2), .second, .val (.ref b34), .val (.ref b38), .val (.ref b43), .unset, .unset, .unset] [(.int (1 : Int32)), (.ref b1), (.ref b43)])) _
    refine X91.iaload hx (j := (1 : Int32)) (v := (.int (1 : Int32))) (by rw [e91]; exact Arq99.1) (State.isArrayOf_alike hZ.alike Arq99.2.1) Arq99.2.2 hiq99 haq99 (g := (mkF m 228 #[.val (.int im), .val (.int ib), .val (.int i0), .val (.int i1), .val (.int i2), .val (.long ga), .second, .val (.int (im &&& (3 : Int32))), .val (.int (1 : Int32)), .val (.int (1 : Int32)), .val (.ref b1), .val (.long (ib.toInt64)), .second, .val (.long f0), .second, .val (.long s1), .second, .val (.long f1), .second, .val (.long s2), .second, .val (.long f2), .second, .val (.ref b34), .val (.ref b38), .val (.ref b43), .unset, .unset, .unset] [(.int (1 : Int32)), (.ref b1), (.ref b43)])) rfl rfl (hb hby at_228) _ ?_
    refine XS.lload X91.here hx rfl (hb hby at_229) rfl ?_
    refine st101 _ ?_
    refine XS.aload X101.here hx rfl (hb hby at_232) rfl rfl ?_
    refine XS.aload X101.here hx rfl (hb hby at_234) rfl rfl ?_
    refine XS.iconst X101.here hx rfl (hb hby at_236) ?_
    show Steps p.tables e below (T101.setTop (mkF m 237 #[.val (.int im), .val (.int ib), .val (.int i0), .val (.int i1), .val (.int i2), .val (.long ga), .second, .val (.int (im &&& (3 : Int32))), .val (.int (1 : Int32)), .val (.int (1 : Int32)), .val (.ref b1), .val (.long (ib.toInt64)), .second, .val (.long f0), .second, .val (.long s1), .second, .val (.long f1), .second, .val (.long s2), .second, .val (.long f2), .second, .val (.ref b34), .val (.ref b38), .val (.ref b43), .unset, .unset, .unset] [(.int (2 : Int32)), (.ref b1), (.ref b34)])) _
    refine X101.iaload hx (j := (2 : Int32)) (v := (.int (2 : Int32))) (by rw [e101]; exact Arq109.1) (State.isArrayOf_alike hZ.alike Arq109.2.1) Arq109.2.2 hiq109 haq109 (g := (mkF m 237 #[.val (.int im), .val (.int ib), .val (.int i0), .val (.int i1), .val (.int i2), .val (.long ga), .second, .val (.int (im &&& (3 : Int32))), .val (.int (1 : Int32)), .val (.int (1 : Int32)), .val (.ref b1), .val (.long (ib.toInt64)), .second, .val (.long f0), .second, .val (.long s1), .second, .val (.long f1), .second, .val (.long s2), .second, .val (.long f2), .second, .val (.ref b34), .val (.ref b38), .val (.ref b43), .unset, .unset, .unset] [(.int (2 : Int32)), (.ref b1), (.ref b34)])) rfl rfl (hb hby at_237) _ ?_
    refine XS.lload X101.here hx rfl (hb hby at_238) rfl ?_
    show Steps p.tables e below (T101.setTop (mkF m 240 #[.val (.int im), .val (.int ib), .val (.int i0), .val (.int i1), .val (.int i2), .val (.long ga), .second, .val (.int (im &&& (3 : Int32))), .val (.int (1 : Int32)), .val (.int (1 : Int32)), .val (.ref b1), .val (.long (ib.toInt64)), .second, .val (.long f0), .second, .val (.long s1), .second, .val (.long f1), .second, .val (.long s2), .second, .val (.long f2), .second, .val (.ref b34), .val (.ref b38), .val (.ref b43), .unset, .unset, .unset] [(.long s2), (.int (2 : Int32)), (.ref b34)])) _
    refine XS.l2dS X101.here hx rfl (hb hby at_240) rfl rfl ?_
    refine st111 _ ?_
    refine XS.aload X111.here hx rfl (hb hby at_242) rfl rfl ?_
    refine XS.aload X111.here hx rfl (hb hby at_244) rfl rfl ?_
    show Steps p.tables e below (T111.setTop (mkF m 246 #[.val (.int im), .val (.int ib), .val (.int i0), .val (.int i1), .val (.int i2), .val (.long ga), .second, .val (.int (im &&& (3 : Int32))), .val (.int (1 : Int32)), .val (.int (1 : Int32)), .val (.ref b1), .val (.long (ib.toInt64)), .second, .val (.long f0), .second, .val (.long s1), .second, .val (.long f1), .second, .val (.long s2), .second, .val (.long f2), .second, .val (.ref b34), .val (.ref b38), .val (.ref b43), .unset, .unset, .unset] [(.ref b1), (.ref b38)])) _
    refine XS.iconst X111.here hx rfl (hb hby at_246) ?_
    refine X111.iaload hx (j := (2 : Int32)) (v := (.int (2 : Int32))) (by rw [e111]; exact Arq119.1) (State.isArrayOf_alike hZ.alike Arq119.2.1) Arq119.2.2 hiq119 haq119 (g := (mkF m 247 #[.val (.int im), .val (.int ib), .val (.int i0), .val (.int i1), .val (.int i2), .val (.long ga), .second, .val (.int (im &&& (3 : Int32))), .val (.int (1 : Int32)), .val (.int (1 : Int32)), .val (.ref b1), .val (.long (ib.toInt64)), .second, .val (.long f0), .second, .val (.long s1), .second, .val (.long f1), .second, .val (.long s2), .second, .val (.long f2), .second, .val (.ref b34), .val (.ref b38), .val (.ref b43), .unset, .unset, .unset] [(.int (2 : Int32)), (.ref b1), (.ref b38)])) rfl rfl (hb hby at_247) _ ?_
    refine XS.lload X111.here hx rfl (hb hby at_248) rfl ?_
    show Steps p.tables e below (T111.setTop (mkF m 250 #[.val (.int im), .val (.int ib), .val (.int i0), .val (.int i1), .val (.int i2), .val (.long ga), .second, .val (.int (im &&& (3 : Int32))), .val (.int (1 : Int32)), .val (.int (1 : Int32)), .val (.ref b1), .val (.long (ib.toInt64)), .second, .val (.long f0), .second, .val (.long s1), .second, .val (.long f1), .second, .val (.long s2), .second, .val (.long f2), .second, .val (.ref b34), .val (.ref b38), .val (.ref b43), .unset, .unset, .unset] [(.long f2), (.int (2 : Int32)), (.ref b38)])) _
    refine XS.l2dS X111.here hx rfl (hb hby at_250) rfl rfl ?_
    refine st121 _ ?_
    refine XS.aload X121.here hx rfl (hb hby at_252) rfl rfl ?_
    show Steps p.tables e below (T121.setTop (mkF m 254 #[.val (.int im), .val (.int ib), .val (.int i0), .val (.int i1), .val (.int i2), .val (.long ga), .second, .val (.int (im &&& (3 : Int32))), .val (.int (1 : Int32)), .val (.int (1 : Int32)), .val (.ref b1), .val (.long (ib.toInt64)), .second, .val (.long f0), .second, .val (.long s1), .second, .val (.long f1), .second, .val (.long s2), .second, .val (.long f2), .second, .val (.ref b34), .val (.ref b38), .val (.ref b43), .unset, .unset, .unset] [(.ref b43)])) _
    refine XS.aload X121.here hx rfl (hb hby at_254) rfl rfl ?_
    refine XS.iconst X121.here hx rfl (hb hby at_256) ?_
    refine X121.iaload hx (j := (2 : Int32)) (v := (.int (2 : Int32))) (by rw [e121]; exact Arq129.1) (State.isArrayOf_alike hZ.alike Arq129.2.1) Arq129.2.2 hiq129 haq129 (g := (mkF m 257 #[.val (.int im), .val (.int ib), .val (.int i0), .val (.int i1), .val (.int i2), .val (.long ga), .second, .val (.int (im &&& (3 : Int32))), .val (.int (1 : Int32)), .val (.int (1 : Int32)), .val (.ref b1), .val (.long (ib.toInt64)), .second, .val (.long f0), .second, .val (.long s1), .second, .val (.long f1), .second, .val (.long s2), .second, .val (.long f2), .second, .val (.ref b34), .val (.ref b38), .val (.ref b43), .unset, .unset, .unset] [(.int (2 : Int32)), (.ref b1), (.ref b43)])) rfl rfl (hb hby at_257) _ ?_
    refine XS.lload X121.here hx rfl (hb hby at_258) rfl ?_
    refine st131 _ ?_
    refine st139 _ ?_
    show Steps p.tables e below (T139.setTop (mkF m 264 #[.val (.int im), .val (.int ib), .val (.int i0), .val (.int i1), .val (.int i2), .val (.long ga), .second, .val (.int (im &&& (3 : Int32))), .val (.int (1 : Int32)), .val (.int (1 : Int32)), .val (.ref b1), .val (.long (ib.toInt64)), .second, .val (.long f0), .second, .val (.long s1), .second, .val (.long f1), .second, .val (.long s2), .second, .val (.long f2), .second, .val (.ref b34), .val (.ref b38), .val (.ref b43), .unset, .unset, .unset] [(.ref b139)])) _
    refine XS.dup X139.here hx rfl (hb hby at_264) rfl rfl ?_
    refine XS.aload X139.here hx rfl (hb hby at_265) rfl rfl ?_
    refine XS.aload X139.here hx rfl (hb hby at_267) rfl rfl ?_
    refine st146.trans ?_
    refine XS.astore X146.here hx rfl (hb hby at_272) rfl rfl (l' := #[.val (.int im), .val (.int ib), .val (.int i0), .val (.int i1), .val (.int i2), .val (.long ga), .second, .val (.int (im &&& (3 : Int32))), .val (.int (1 : Int32)), .val (.int (1 : Int32)), .val (.ref b1), .val (.long (ib.toInt64)), .second, .val (.long f0), .second, .val (.long s1), .second, .val (.long f1), .second, .val (.long s2), .second, .val (.long f2), .second, .val (.ref b34), .val (.ref b38), .val (.ref b43), .val (.ref b139), .unset, .unset]) rfl ?_
    exact kt
  rcases own_n4 im with hn | hn | hn | hn
  · have k155 : ∀ tq, Steps p.tables e below (T146.setTop (mkF m 274 #[.val (.int im), .val (.int ib), .val (.int i0), .val (.int i1), .val (.int i2), .val (.long ga), .second, .val (.int (0 : Int32)), .val (.int (1 : Int32)), .val (.int (1 : Int32)), .val (.ref b1), .val (.long (ib.toInt64)), .second, .val (.long f0), .second, .val (.long s1), .second, .val (.long f1), .second, .val (.long s2), .second, .val (.long f2), .second, .val (.ref b34), .val (.ref b38), .val (.ref b43), .val (.ref b139), .unset, .unset] [])) tq → Steps p.tables e below (s₁.setTop (entryFrame m #[(.int im), (.int ib), (.int i0), (.int i1), (.int i2), (.long ga)] maxLocals)) tq := by
      intro tq kt
      refine k154 tq ?_
      rw [hn]
      exact kt
    obtain ⟨cq156, kq156, q156a, q156b, q156c⟩ := isOf hZ rfl Eo146
    obtain ⟨_, _, ⟨T156, L156, k156, n156⟩, -, X156, ⟨Lc156, hQ156, l156, y156, z156⟩, st156⟩ := X146.virtualBack hx (y := (⟨"com/example/makespun/makespun/simulate/Timeline", "freeAt", "()D"⟩ : MethodName)) (z := (⟨"com/example/makespun/makespun/simulate/Timeline", "freeAt", "()D"⟩ : MethodName)) hown (mvT hZ (hw _ (List.mem_of_getElem? (i := 20) rfl))) (mvT hZ (hw _ (List.mem_of_getElem? (i := 21) rfl))) (notFace_of_selects (args := #[]) (mvT hZ (hw _ (List.mem_of_getElem? (i := 23) rfl)))) (mvT hZ (hw _ (List.mem_of_getElem? (i := 23) rfl))) (mvT hZ (hw _ (List.mem_of_getElem? (i := 22) rfl))) (by decide) (backOf (W := 0) (rmF0 l Z a0 hw [] b139 T146.heap n0 z152 Fs146) hZ (hw _ (List.mem_of_getElem? (i := 24) rfl)) (hw _ (List.mem_of_getElem? (i := 7) rfl)) (by decide) (by decide)) q156a q156c (g := (mkF m 382 #[.val (.int im), .val (.int ib), .val (.int i0), .val (.int i1), .val (.int i2), .val (.long ga), .second, .val (.int (0 : Int32)), .val (.int (1 : Int32)), .val (.int (1 : Int32)), .val (.ref b1), .val (.long (ib.toInt64)), .second, .val (.long f0), .second, .val (.long s1), .second, .val (.long f1), .second, .val (.long s2), .second, .val (.long f2), .second, .val (.ref b34), .val (.ref b38), .val (.ref b43), .val (.ref b139), .val (.long (0 : Int64)), .second] [(.ref b139)])) rfl (by rw [hml]; rfl) (Steps.refl _) (argsL := []) (rest := []) (lenOf pd_2 rfl) rfl (by show 2 * 0 + _ ≤ _; exact Nat.le_of_eq rfl) (hb hby at_382) (fun _ _ => ⟨rfl, rfl, (by decide : 6 + 0 ≤ _), (by decide : 21 + 0 ≤ _)⟩)
    dsimp only [Pt.U, Pt.locs, Pt.cells, Pt.slots] at X156 l156 y156 z156 st156 hQ156
    replace X156 := own_cast X156 l156 y156 z156
    obtain ⟨hv156, N156q, e156⟩ := hQ156
    rw [hv156] at st156
    have N156 := Fr.app N146 N156q
    obtain ⟨fs, hr, hrun, hended, hW, hsame⟩ := X156.leave (v := some (.int (1 : Int32))) (fun h => by rw [Bd.returns] at h; cases h)
    refine ⟨_, _, k155 _ ?_, hrun, hended, _, _, rfl, ?_, ⟨_, rfl⟩, hW, hsame.mono (by decide) (by decide)⟩
    · refine XS.iload X146.here hx rfl (hb hby at_274) rfl ?_
      show Steps p.tables e below (T146.setTop (mkF m 276 #[.val (.int im), .val (.int ib), .val (.int i0), .val (.int i1), .val (.int i2), .val (.long ga), .second, .val (.int (0 : Int32)), .val (.int (1 : Int32)), .val (.int (1 : Int32)), .val (.ref b1), .val (.long (ib.toInt64)), .second, .val (.long f0), .second, .val (.long s1), .second, .val (.long f1), .second, .val (.long s2), .second, .val (.long f2), .second, .val (.ref b34), .val (.ref b38), .val (.ref b43), .val (.ref b139), .unset, .unset] [(.int (0 : Int32))])) _
      refine XS.iconst X146.here hx rfl (hb hby at_276) ?_
      show Steps p.tables e below (T146.setTop (mkF m 277 #[.val (.int im), .val (.int ib), .val (.int i0), .val (.int i1), .val (.int i2), .val (.long ga), .second, .val (.int (0 : Int32)), .val (.int (1 : Int32)), .val (.int (1 : Int32)), .val (.ref b1), .val (.long (ib.toInt64)), .second, .val (.long f0), .second, .val (.long s1), .second, .val (.long f1), .second, .val (.long s2), .second, .val (.long f2), .second, .val (.ref b34), .val (.ref b38), .val (.ref b43), .val (.ref b139), .unset, .unset] [(.int (1 : Int32)), (.int (0 : Int32))])) _
      refine XS.icmpYes X146.here hx rfl (pc0 := 277) (pc' := 287) rfl (hb hby at_277) rfl (tlt (by decide : ((0 : Int32) < (1 : Int32)))).1 (by decide) (by decide) ?_
      refine XS.iload X146.here hx rfl (hb hby at_287) rfl ?_
      refine XS.iconst X146.here hx rfl (hb hby at_289) ?_
      show Steps p.tables e below (T146.setTop (mkF m 290 #[.val (.int im), .val (.int ib), .val (.int i0), .val (.int i1), .val (.int i2), .val (.long ga), .second, .val (.int (0 : Int32)), .val (.int (1 : Int32)), .val (.int (1 : Int32)), .val (.ref b1), .val (.long (ib.toInt64)), .second, .val (.long f0), .second, .val (.long s1), .second, .val (.long f1), .second, .val (.long s2), .second, .val (.long f2), .second, .val (.ref b34), .val (.ref b38), .val (.ref b43), .val (.ref b139), .unset, .unset] [(.int (2 : Int32)), (.int (0 : Int32))])) _
      refine XS.icmpYes X146.here hx rfl (pc0 := 290) (pc' := 309) rfl (hb hby at_290) rfl (tlt (by decide : ((0 : Int32) < (2 : Int32)))).1 (by decide) (by decide) ?_
      refine XS.iload X146.here hx rfl (hb hby at_309) rfl ?_
      refine XS.iconst X146.here hx rfl (hb hby at_311) ?_
      show Steps p.tables e below (T146.setTop (mkF m 312 #[.val (.int im), .val (.int ib), .val (.int i0), .val (.int i1), .val (.int i2), .val (.long ga), .second, .val (.int (0 : Int32)), .val (.int (1 : Int32)), .val (.int (1 : Int32)), .val (.ref b1), .val (.long (ib.toInt64)), .second, .val (.long f0), .second, .val (.long s1), .second, .val (.long f1), .second, .val (.long s2), .second, .val (.long f2), .second, .val (.ref b34), .val (.ref b38), .val (.ref b43), .val (.ref b139), .unset, .unset] [(.int (3 : Int32)), (.int (0 : Int32))])) _
      refine XS.icmpYes X146.here hx rfl (pc0 := 312) (pc' := 331) rfl (hb hby at_312) rfl (feq (by decide : ¬ ((0 : Int32) = (3 : Int32)))).2 (by decide) (by decide) ?_
      refine XS.lconst X146.here hx rfl (hb hby at_331) ?_
      show Steps p.tables e below (T146.setTop (mkF m 332 #[.val (.int im), .val (.int ib), .val (.int i0), .val (.int i1), .val (.int i2), .val (.long ga), .second, .val (.int (0 : Int32)), .val (.int (1 : Int32)), .val (.int (1 : Int32)), .val (.ref b1), .val (.long (ib.toInt64)), .second, .val (.long f0), .second, .val (.long s1), .second, .val (.long f1), .second, .val (.long s2), .second, .val (.long f2), .second, .val (.ref b34), .val (.ref b38), .val (.ref b43), .val (.ref b139), .unset, .unset] [(.long (0 : Int64))])) _
      refine XS.lstore X146.here hx rfl (hb hby at_332) rfl (l' := #[.val (.int im), .val (.int ib), .val (.int i0), .val (.int i1), .val (.int i2), .val (.long ga), .second, .val (.int (0 : Int32)), .val (.int (1 : Int32)), .val (.int (1 : Int32)), .val (.ref b1), .val (.long (ib.toInt64)), .second, .val (.long f0), .second, .val (.long s1), .second, .val (.long f1), .second, .val (.long s2), .second, .val (.long f2), .second, .val (.ref b34), .val (.ref b38), .val (.ref b43), .val (.ref b139), .val (.long (0 : Int64)), .second]) rfl ?_
      refine XS.iload X146.here hx rfl (hb hby at_334) rfl ?_
      refine XS.iconst X146.here hx rfl (hb hby at_336) ?_
      show Steps p.tables e below (T146.setTop (mkF m 337 #[.val (.int im), .val (.int ib), .val (.int i0), .val (.int i1), .val (.int i2), .val (.long ga), .second, .val (.int (0 : Int32)), .val (.int (1 : Int32)), .val (.int (1 : Int32)), .val (.ref b1), .val (.long (ib.toInt64)), .second, .val (.long f0), .second, .val (.long s1), .second, .val (.long f1), .second, .val (.long s2), .second, .val (.long f2), .second, .val (.ref b34), .val (.ref b38), .val (.ref b43), .val (.ref b139), .val (.long (0 : Int64)), .second] [(.int (1 : Int32)), (.int (0 : Int32))])) _
      refine XS.icmpYes X146.here hx rfl (pc0 := 337) (pc' := 346) rfl (hb hby at_337) rfl (tlt (by decide : ((0 : Int32) < (1 : Int32)))).1 (by decide) (by decide) ?_
      refine XS.iload X146.here hx rfl (hb hby at_346) rfl ?_
      refine XS.iconst X146.here hx rfl (hb hby at_348) ?_
      show Steps p.tables e below (T146.setTop (mkF m 349 #[.val (.int im), .val (.int ib), .val (.int i0), .val (.int i1), .val (.int i2), .val (.long ga), .second, .val (.int (0 : Int32)), .val (.int (1 : Int32)), .val (.int (1 : Int32)), .val (.ref b1), .val (.long (ib.toInt64)), .second, .val (.long f0), .second, .val (.long s1), .second, .val (.long f1), .second, .val (.long s2), .second, .val (.long f2), .second, .val (.ref b34), .val (.ref b38), .val (.ref b43), .val (.ref b139), .val (.long (0 : Int64)), .second] [(.int (2 : Int32)), (.int (0 : Int32))])) _
      refine XS.icmpYes X146.here hx rfl (pc0 := 349) (pc' := 363) rfl (hb hby at_349) rfl (tlt (by decide : ((0 : Int32) < (2 : Int32)))).1 (by decide) (by decide) ?_
      refine XS.iload X146.here hx rfl (hb hby at_363) rfl ?_
      show Steps p.tables e below (T146.setTop (mkF m 365 #[.val (.int im), .val (.int ib), .val (.int i0), .val (.int i1), .val (.int i2), .val (.long ga), .second, .val (.int (0 : Int32)), .val (.int (1 : Int32)), .val (.int (1 : Int32)), .val (.ref b1), .val (.long (ib.toInt64)), .second, .val (.long f0), .second, .val (.long s1), .second, .val (.long f1), .second, .val (.long s2), .second, .val (.long f2), .second, .val (.ref b34), .val (.ref b38), .val (.ref b43), .val (.ref b139), .val (.long (0 : Int64)), .second] [(.int (0 : Int32))])) _
      refine XS.iconst X146.here hx rfl (hb hby at_365) ?_
      show Steps p.tables e below (T146.setTop (mkF m 366 #[.val (.int im), .val (.int ib), .val (.int i0), .val (.int i1), .val (.int i2), .val (.long ga), .second, .val (.int (0 : Int32)), .val (.int (1 : Int32)), .val (.int (1 : Int32)), .val (.ref b1), .val (.long (ib.toInt64)), .second, .val (.long f0), .second, .val (.long s1), .second, .val (.long f1), .second, .val (.long s2), .second, .val (.long f2), .second, .val (.ref b34), .val (.ref b38), .val (.ref b43), .val (.ref b139), .val (.long (0 : Int64)), .second] [(.int (3 : Int32)), (.int (0 : Int32))])) _
      refine XS.icmpYes X146.here hx rfl (pc0 := 366) (pc' := 380) rfl (hb hby at_366) rfl (feq (by decide : ¬ ((0 : Int32) = (3 : Int32)))).2 (by decide) (by decide) ?_
      refine XS.aload X146.here hx rfl (hb hby at_380) rfl rfl ?_
      refine st156.trans ?_
      refine XS.lload X156.here hx rfl (hb hby at_385) rfl ?_
      show Steps p.tables e below (T156.setTop (mkF m 387 #[.val (.int im), .val (.int ib), .val (.int i0), .val (.int i1), .val (.int i2), .val (.long ga), .second, .val (.int (0 : Int32)), .val (.int (1 : Int32)), .val (.int (1 : Int32)), .val (.ref b1), .val (.long (ib.toInt64)), .second, .val (.long f0), .second, .val (.long s1), .second, .val (.long f1), .second, .val (.long s2), .second, .val (.long f2), .second, .val (.ref b34), .val (.ref b38), .val (.ref b43), .val (.ref b139), .val (.long (0 : Int64)), .second] [(.long (0 : Int64)), (.double FP.dconst0)])) _
      refine XS.l2dS X156.here hx rfl (hb hby at_387) rfl rfl ?_
      show Steps p.tables e below (T156.setTop (mkF m 388 #[.val (.int im), .val (.int ib), .val (.int i0), .val (.int i1), .val (.int i2), .val (.long ga), .second, .val (.int (0 : Int32)), .val (.int (1 : Int32)), .val (.int (1 : Int32)), .val (.ref b1), .val (.long (ib.toInt64)), .second, .val (.long f0), .second, .val (.long s1), .second, .val (.long f1), .second, .val (.long s2), .second, .val (.long f2), .second, .val (.ref b34), .val (.ref b38), .val (.ref b43), .val (.ref b139), .val (.long (0 : Int64)), .second] [(.double (FP.l2d (0 : Int64))), (.double FP.dconst0)])) _
      refine XS.dcmpS X156.here hx rfl (hb hby at_388) rfl (v := (0 : Int32)) own_cmp0 ?_
      show Steps p.tables e below (T156.setTop (mkF m 389 #[.val (.int im), .val (.int ib), .val (.int i0), .val (.int i1), .val (.int i2), .val (.long ga), .second, .val (.int (0 : Int32)), .val (.int (1 : Int32)), .val (.int (1 : Int32)), .val (.ref b1), .val (.long (ib.toInt64)), .second, .val (.long f0), .second, .val (.long s1), .second, .val (.long f1), .second, .val (.long s2), .second, .val (.long f2), .second, .val (.ref b34), .val (.ref b38), .val (.ref b43), .val (.ref b139), .val (.long (0 : Int64)), .second] [(.int (0 : Int32))])) _
      refine XS.ifNo X156.here hx rfl (hb hby at_389) rfl ((if0 _ _).trans (teq (by decide : ((0 : Int32) = (0 : Int32)))).2) ?_
      refine XS.iconst X156.here hx rfl (hb hby at_392) ?_
      show Steps p.tables e below (T156.setTop (mkF m 393 #[.val (.int im), .val (.int ib), .val (.int i0), .val (.int i1), .val (.int i2), .val (.long ga), .second, .val (.int (0 : Int32)), .val (.int (1 : Int32)), .val (.int (1 : Int32)), .val (.ref b1), .val (.long (ib.toInt64)), .second, .val (.long f0), .second, .val (.long s1), .second, .val (.long f1), .second, .val (.long s2), .second, .val (.long f2), .second, .val (.ref b34), .val (.ref b38), .val (.ref b43), .val (.ref b139), .val (.long (0 : Int64)), .second] [(.int (1 : Int32))])) _
      refine XS.goto X156.here hx rfl (pc0 := 393) (pc' := 397) rfl (hb hby at_393) (by decide) (by decide) ?_
      show Steps p.tables e below (T156.setTop (mkF m 397 #[.val (.int im), .val (.int ib), .val (.int i0), .val (.int i1), .val (.int i2), .val (.long ga), .second, .val (.int (0 : Int32)), .val (.int (1 : Int32)), .val (.int (1 : Int32)), .val (.ref b1), .val (.long (ib.toInt64)), .second, .val (.long f0), .second, .val (.long s1), .second, .val (.long f1), .second, .val (.long s2), .second, .val (.long f2), .second, .val (.ref b34), .val (.ref b38), .val (.ref b43), .val (.ref b139), .val (.long (0 : Int64)), .second] [(.int (1 : Int32))])) _
      exact retN X156 hx (t := .boolean) Bd.returns (by simp) (hb hby at_397) hr
    · show own_Q0 Z im ib i0 i1 i2 ga h0 n0 _ T156.heap _
      rw [e156]
      exact ⟨rfl, N156⟩
  · have k157 : ∀ tq, Steps p.tables e below (T146.setTop (mkF m 274 #[.val (.int im), .val (.int ib), .val (.int i0), .val (.int i1), .val (.int i2), .val (.long ga), .second, .val (.int (1 : Int32)), .val (.int (1 : Int32)), .val (.int (1 : Int32)), .val (.ref b1), .val (.long (ib.toInt64)), .second, .val (.long f0), .second, .val (.long s1), .second, .val (.long f1), .second, .val (.long s2), .second, .val (.long f2), .second, .val (.ref b34), .val (.ref b38), .val (.ref b43), .val (.ref b139), .unset, .unset] [])) tq → Steps p.tables e below (s₁.setTop (entryFrame m #[(.int im), (.int ib), (.int i0), (.int i1), (.int i2), (.long ga)] maxLocals)) tq := by
      intro tq kt
      refine k154 tq ?_
      rw [hn]
      exact kt
    obtain ⟨cq158, kq158, q158a, q158b, q158c⟩ := isOf hZ rfl Eo146
    obtain ⟨_, _, ⟨T158, L158, k158, n158⟩, -, X158, ⟨Lc158, hQ158, l158, y158, z158⟩, st158⟩ := X146.virtualBack hx (y := (⟨"com/example/makespun/makespun/simulate/Timeline", "add", "(II)V"⟩ : MethodName)) (z := (⟨"com/example/makespun/makespun/simulate/Timeline", "add", "(II)V"⟩ : MethodName)) hown (mvT hZ (hw _ (List.mem_of_getElem? (i := 27) rfl))) (mvT hZ (hw _ (List.mem_of_getElem? (i := 28) rfl))) (notFace_of_selects (args := #[]) (mvT hZ (hw _ (List.mem_of_getElem? (i := 30) rfl)))) (mvT hZ (hw _ (List.mem_of_getElem? (i := 30) rfl))) (mvT hZ (hw _ (List.mem_of_getElem? (i := 29) rfl))) (by decide) (backOf (W := 0) (rmA00 l Z a0 hw [] b139 bt146 b38 kb146 (0 : Int32) (0 : Int32) (0 : Int32) (0 : Int32) (0 : Int32) T146.heap n0 z152 Eo146 Ft146 Fs146 Ff146 Fi146 Vt146 ne_b139_bt146 g_b139 g_bt146) hZ (hw _ (List.mem_of_getElem? (i := 31) rfl)) (hw _ (List.mem_of_getElem? (i := 7) rfl)) (by decide) (by decide)) q158a q158c (g := (mkF m 284 #[.val (.int im), .val (.int ib), .val (.int i0), .val (.int i1), .val (.int i2), .val (.long ga), .second, .val (.int (1 : Int32)), .val (.int (1 : Int32)), .val (.int (1 : Int32)), .val (.ref b1), .val (.long (ib.toInt64)), .second, .val (.long f0), .second, .val (.long s1), .second, .val (.long f1), .second, .val (.long s2), .second, .val (.long f2), .second, .val (.ref b34), .val (.ref b38), .val (.ref b43), .val (.ref b139), .unset, .unset] [(.int (0 : Int32)), (.int (0 : Int32)), (.ref b139)])) rfl (by rw [hml]; rfl) (Steps.refl _) (argsL := [(.int (0 : Int32)), (.int (0 : Int32))]) (rest := []) (lenOf pd_3 rfl) rfl (by show 2 * 0 + _ ≤ _; exact Nat.le_of_eq rfl) (hb hby at_284) (fun _ _ => ⟨rfl, rfl, (by decide : 6 + 0 ≤ _), (by decide : 21 + 0 ≤ _)⟩)
    dsimp only [Pt.U, Pt.locs, Pt.cells, Pt.slots] at X158 l158 y158 z158 st158 hQ158
    replace X158 := own_cast X158 l158 y158 z158
    obtain ⟨hv158, N158q, K158, Eo158, Ft158, Fs158, Ff158, Fi158, Vt158⟩ := hQ158
    rw [hv158] at st158
    have N158 := Fr.app N146 N158q
    have f159 := f147.keep K158 (ninS ne_b1_b139 (ninS ne_b1_bt146 nin0))
    have f160 := f148.keep K158 (ninS ne_b34_b139 (ninS ne_b34_bt146 nin0))
    have f161 := f149.keep K158 (ninS ne_b38_b139 (ninS ne_b38_bt146 nin0))
    have f162 := f150.keep K158 (ninS ne_b43_b139 (ninS ne_b43_bt146 nin0))
    have f163 := Eo146.keep K158
    have z164 := Nat.le_trans z152 K158.1
    have kp165 := Keep.trans kp153 K158 (allS (Or.inr sz_b139) (allS (Or.inr sz_bt146) all0))
    obtain ⟨clq166, Arq166, cq166, Sq166, nq166, Hq166, Gq166⟩ := id f162
    have hiq166 : ¬ ((0 : Int32) < 0 ∨ clq166.slots.size ≤ ((0 : Int32)).toNatClampNeg) := inb_of Sq166 ⟨by decide, by decide⟩
    have haq166 : clq166.slots[((0 : Int32)).toNatClampNeg]? = some (.long f0) := Hq166.at hiq166 rfl
    obtain ⟨cq167, kq167, q167a, q167b, q167c⟩ := isOf hZ rfl Eo158
    obtain ⟨_, _, ⟨T167, L167, k167, n167⟩, -, X167, ⟨Lc167, hQ167, l167, y167, z167⟩, st167⟩ := X158.virtualBack hx (y := (⟨"com/example/makespun/makespun/simulate/Timeline", "freeAt", "()D"⟩ : MethodName)) (z := (⟨"com/example/makespun/makespun/simulate/Timeline", "freeAt", "()D"⟩ : MethodName)) hown (mvT hZ (hw _ (List.mem_of_getElem? (i := 20) rfl))) (mvT hZ (hw _ (List.mem_of_getElem? (i := 21) rfl))) (notFace_of_selects (args := #[]) (mvT hZ (hw _ (List.mem_of_getElem? (i := 23) rfl)))) (mvT hZ (hw _ (List.mem_of_getElem? (i := 23) rfl))) (mvT hZ (hw _ (List.mem_of_getElem? (i := 22) rfl))) (by decide) (backOf (W := 0) (rmF10 l Z a0 hw [] b139 bt146 b38 kb146 k38 (0 : Int32) (0 : Int32) (0 : Int32) (FP.l2d f0) (FP.l2d f1) (FP.l2d f2) T158.heap n0 z164 Ft158 Fs158 Ff158 Vt158 f161) hZ (hw _ (List.mem_of_getElem? (i := 24) rfl)) (hw _ (List.mem_of_getElem? (i := 7) rfl)) (by decide) (by decide)) q167a q167c (g := (mkF m 382 #[.val (.int im), .val (.int ib), .val (.int i0), .val (.int i1), .val (.int i2), .val (.long ga), .second, .val (.int (1 : Int32)), .val (.int (1 : Int32)), .val (.int (1 : Int32)), .val (.ref b1), .val (.long (ib.toInt64)), .second, .val (.long f0), .second, .val (.long s1), .second, .val (.long f1), .second, .val (.long s2), .second, .val (.long f2), .second, .val (.ref b34), .val (.ref b38), .val (.ref b43), .val (.ref b139), .val (.long f0), .second] [(.ref b139)])) rfl (by rw [hml]; rfl) (Steps.refl _) (argsL := []) (rest := []) (lenOf pd_2 rfl) rfl (by show 2 * 0 + _ ≤ _; exact Nat.le_of_eq rfl) (hb hby at_382) (fun _ _ => ⟨rfl, rfl, (by decide : 6 + 0 ≤ _), (by decide : 21 + 0 ≤ _)⟩)
    dsimp only [Pt.U, Pt.locs, Pt.cells, Pt.slots] at X167 l167 y167 z167 st167 hQ167
    replace X167 := own_cast X167 l167 y167 z167
    obtain ⟨hv167, N167q, e167⟩ := hQ167
    rw [hv167] at st167
    have N167 := Fr.app N158 N167q
    obtain ⟨fs, hr, hrun, hended, hW, hsame⟩ := X167.leave (v := some (.int (1 : Int32))) (fun h => by rw [Bd.returns] at h; cases h)
    refine ⟨_, _, k157 _ ?_, hrun, hended, _, _, rfl, ?_, ⟨_, rfl⟩, hW, hsame.mono (by decide) (by decide)⟩
    · refine XS.iload X146.here hx rfl (hb hby at_274) rfl ?_
      refine XS.iconst X146.here hx rfl (hb hby at_276) ?_
      show Steps p.tables e below (T146.setTop (mkF m 277 #[.val (.int im), .val (.int ib), .val (.int i0), .val (.int i1), .val (.int i2), .val (.long ga), .second, .val (.int (1 : Int32)), .val (.int (1 : Int32)), .val (.int (1 : Int32)), .val (.ref b1), .val (.long (ib.toInt64)), .second, .val (.long f0), .second, .val (.long s1), .second, .val (.long f1), .second, .val (.long s2), .second, .val (.long f2), .second, .val (.ref b34), .val (.ref b38), .val (.ref b43), .val (.ref b139), .unset, .unset] [(.int (1 : Int32)), (.int (1 : Int32))])) _
      refine XS.icmpNo X146.here hx rfl (hb hby at_277) rfl (flt (by decide : ¬ ((1 : Int32) < (1 : Int32)))).1 ?_
      refine XS.aload X146.here hx rfl (hb hby at_280) rfl rfl ?_
      refine XS.iconst X146.here hx rfl (hb hby at_282) ?_
      refine XS.iconst X146.here hx rfl (hb hby at_283) ?_
      show Steps p.tables e below (T146.setTop (mkF m 284 #[.val (.int im), .val (.int ib), .val (.int i0), .val (.int i1), .val (.int i2), .val (.long ga), .second, .val (.int (1 : Int32)), .val (.int (1 : Int32)), .val (.int (1 : Int32)), .val (.ref b1), .val (.long (ib.toInt64)), .second, .val (.long f0), .second, .val (.long s1), .second, .val (.long f1), .second, .val (.long s2), .second, .val (.long f2), .second, .val (.ref b34), .val (.ref b38), .val (.ref b43), .val (.ref b139), .unset, .unset] [(.int (0 : Int32)), (.int (0 : Int32)), (.ref b139)])) _
      refine st158.trans ?_
      refine XS.iload X158.here hx rfl (hb hby at_287) rfl ?_
      refine XS.iconst X158.here hx rfl (hb hby at_289) ?_
      show Steps p.tables e below (T158.setTop (mkF m 290 #[.val (.int im), .val (.int ib), .val (.int i0), .val (.int i1), .val (.int i2), .val (.long ga), .second, .val (.int (1 : Int32)), .val (.int (1 : Int32)), .val (.int (1 : Int32)), .val (.ref b1), .val (.long (ib.toInt64)), .second, .val (.long f0), .second, .val (.long s1), .second, .val (.long f1), .second, .val (.long s2), .second, .val (.long f2), .second, .val (.ref b34), .val (.ref b38), .val (.ref b43), .val (.ref b139), .unset, .unset] [(.int (2 : Int32)), (.int (1 : Int32))])) _
      refine XS.icmpYes X158.here hx rfl (pc0 := 290) (pc' := 309) rfl (hb hby at_290) rfl (tlt (by decide : ((1 : Int32) < (2 : Int32)))).1 (by decide) (by decide) ?_
      refine XS.iload X158.here hx rfl (hb hby at_309) rfl ?_
      refine XS.iconst X158.here hx rfl (hb hby at_311) ?_
      show Steps p.tables e below (T158.setTop (mkF m 312 #[.val (.int im), .val (.int ib), .val (.int i0), .val (.int i1), .val (.int i2), .val (.long ga), .second, .val (.int (1 : Int32)), .val (.int (1 : Int32)), .val (.int (1 : Int32)), .val (.ref b1), .val (.long (ib.toInt64)), .second, .val (.long f0), .second, .val (.long s1), .second, .val (.long f1), .second, .val (.long s2), .second, .val (.long f2), .second, .val (.ref b34), .val (.ref b38), .val (.ref b43), .val (.ref b139), .unset, .unset] [(.int (3 : Int32)), (.int (1 : Int32))])) _
      refine XS.icmpYes X158.here hx rfl (pc0 := 312) (pc' := 331) rfl (hb hby at_312) rfl (feq (by decide : ¬ ((1 : Int32) = (3 : Int32)))).2 (by decide) (by decide) ?_
      refine XS.lconst X158.here hx rfl (hb hby at_331) ?_
      show Steps p.tables e below (T158.setTop (mkF m 332 #[.val (.int im), .val (.int ib), .val (.int i0), .val (.int i1), .val (.int i2), .val (.long ga), .second, .val (.int (1 : Int32)), .val (.int (1 : Int32)), .val (.int (1 : Int32)), .val (.ref b1), .val (.long (ib.toInt64)), .second, .val (.long f0), .second, .val (.long s1), .second, .val (.long f1), .second, .val (.long s2), .second, .val (.long f2), .second, .val (.ref b34), .val (.ref b38), .val (.ref b43), .val (.ref b139), .unset, .unset] [(.long (0 : Int64))])) _
      refine XS.lstore X158.here hx rfl (hb hby at_332) rfl (l' := #[.val (.int im), .val (.int ib), .val (.int i0), .val (.int i1), .val (.int i2), .val (.long ga), .second, .val (.int (1 : Int32)), .val (.int (1 : Int32)), .val (.int (1 : Int32)), .val (.ref b1), .val (.long (ib.toInt64)), .second, .val (.long f0), .second, .val (.long s1), .second, .val (.long f1), .second, .val (.long s2), .second, .val (.long f2), .second, .val (.ref b34), .val (.ref b38), .val (.ref b43), .val (.ref b139), .val (.long (0 : Int64)), .second]) rfl ?_
      refine XS.iload X158.here hx rfl (hb hby at_334) rfl ?_
      refine XS.iconst X158.here hx rfl (hb hby at_336) ?_
      show Steps p.tables e below (T158.setTop (mkF m 337 #[.val (.int im), .val (.int ib), .val (.int i0), .val (.int i1), .val (.int i2), .val (.long ga), .second, .val (.int (1 : Int32)), .val (.int (1 : Int32)), .val (.int (1 : Int32)), .val (.ref b1), .val (.long (ib.toInt64)), .second, .val (.long f0), .second, .val (.long s1), .second, .val (.long f1), .second, .val (.long s2), .second, .val (.long f2), .second, .val (.ref b34), .val (.ref b38), .val (.ref b43), .val (.ref b139), .val (.long (0 : Int64)), .second] [(.int (1 : Int32)), (.int (1 : Int32))])) _
      refine XS.icmpNo X158.here hx rfl (hb hby at_337) rfl (flt (by decide : ¬ ((1 : Int32) < (1 : Int32)))).1 ?_
      refine XS.aload X158.here hx rfl (hb hby at_340) rfl rfl ?_
      refine XS.iconst X158.here hx rfl (hb hby at_342) ?_
      refine X158.laload hx (j := (0 : Int32)) (v := (.long f0)) (by exact Arq166.1) (State.isArrayOf_alike hZ.alike Arq166.2.1) Arq166.2.2 hiq166 haq166 (g := (mkF m 343 #[.val (.int im), .val (.int ib), .val (.int i0), .val (.int i1), .val (.int i2), .val (.long ga), .second, .val (.int (1 : Int32)), .val (.int (1 : Int32)), .val (.int (1 : Int32)), .val (.ref b1), .val (.long (ib.toInt64)), .second, .val (.long f0), .second, .val (.long s1), .second, .val (.long f1), .second, .val (.long s2), .second, .val (.long f2), .second, .val (.ref b34), .val (.ref b38), .val (.ref b43), .val (.ref b139), .val (.long (0 : Int64)), .second] [(.int (0 : Int32)), (.ref b43)])) rfl rfl (hb hby at_343) _ ?_
      show Steps p.tables e below (T158.setTop (mkF m 344 #[.val (.int im), .val (.int ib), .val (.int i0), .val (.int i1), .val (.int i2), .val (.long ga), .second, .val (.int (1 : Int32)), .val (.int (1 : Int32)), .val (.int (1 : Int32)), .val (.ref b1), .val (.long (ib.toInt64)), .second, .val (.long f0), .second, .val (.long s1), .second, .val (.long f1), .second, .val (.long s2), .second, .val (.long f2), .second, .val (.ref b34), .val (.ref b38), .val (.ref b43), .val (.ref b139), .val (.long (0 : Int64)), .second] [(.long f0)])) _
      refine XS.lstore X158.here hx rfl (hb hby at_344) rfl (l' := #[.val (.int im), .val (.int ib), .val (.int i0), .val (.int i1), .val (.int i2), .val (.long ga), .second, .val (.int (1 : Int32)), .val (.int (1 : Int32)), .val (.int (1 : Int32)), .val (.ref b1), .val (.long (ib.toInt64)), .second, .val (.long f0), .second, .val (.long s1), .second, .val (.long f1), .second, .val (.long s2), .second, .val (.long f2), .second, .val (.ref b34), .val (.ref b38), .val (.ref b43), .val (.ref b139), .val (.long f0), .second]) rfl ?_
      refine XS.iload X158.here hx rfl (hb hby at_346) rfl ?_
      refine XS.iconst X158.here hx rfl (hb hby at_348) ?_
      show Steps p.tables e below (T158.setTop (mkF m 349 #[.val (.int im), .val (.int ib), .val (.int i0), .val (.int i1), .val (.int i2), .val (.long ga), .second, .val (.int (1 : Int32)), .val (.int (1 : Int32)), .val (.int (1 : Int32)), .val (.ref b1), .val (.long (ib.toInt64)), .second, .val (.long f0), .second, .val (.long s1), .second, .val (.long f1), .second, .val (.long s2), .second, .val (.long f2), .second, .val (.ref b34), .val (.ref b38), .val (.ref b43), .val (.ref b139), .val (.long f0), .second] [(.int (2 : Int32)), (.int (1 : Int32))])) _
      refine XS.icmpYes X158.here hx rfl (pc0 := 349) (pc' := 363) rfl (hb hby at_349) rfl (tlt (by decide : ((1 : Int32) < (2 : Int32)))).1 (by decide) (by decide) ?_
      refine XS.iload X158.here hx rfl (hb hby at_363) rfl ?_
      refine XS.iconst X158.here hx rfl (hb hby at_365) ?_
      show Steps p.tables e below (T158.setTop (mkF m 366 #[.val (.int im), .val (.int ib), .val (.int i0), .val (.int i1), .val (.int i2), .val (.long ga), .second, .val (.int (1 : Int32)), .val (.int (1 : Int32)), .val (.int (1 : Int32)), .val (.ref b1), .val (.long (ib.toInt64)), .second, .val (.long f0), .second, .val (.long s1), .second, .val (.long f1), .second, .val (.long s2), .second, .val (.long f2), .second, .val (.ref b34), .val (.ref b38), .val (.ref b43), .val (.ref b139), .val (.long f0), .second] [(.int (3 : Int32)), (.int (1 : Int32))])) _
      refine XS.icmpYes X158.here hx rfl (pc0 := 366) (pc' := 380) rfl (hb hby at_366) rfl (feq (by decide : ¬ ((1 : Int32) = (3 : Int32)))).2 (by decide) (by decide) ?_
      refine XS.aload X158.here hx rfl (hb hby at_380) rfl rfl ?_
      show Steps p.tables e below (T158.setTop (mkF m 382 #[.val (.int im), .val (.int ib), .val (.int i0), .val (.int i1), .val (.int i2), .val (.long ga), .second, .val (.int (1 : Int32)), .val (.int (1 : Int32)), .val (.int (1 : Int32)), .val (.ref b1), .val (.long (ib.toInt64)), .second, .val (.long f0), .second, .val (.long s1), .second, .val (.long f1), .second, .val (.long s2), .second, .val (.long f2), .second, .val (.ref b34), .val (.ref b38), .val (.ref b43), .val (.ref b139), .val (.long f0), .second] [(.ref b139)])) _
      refine st167.trans ?_
      refine XS.lload X167.here hx rfl (hb hby at_385) rfl ?_
      show Steps p.tables e below (T167.setTop (mkF m 387 #[.val (.int im), .val (.int ib), .val (.int i0), .val (.int i1), .val (.int i2), .val (.long ga), .second, .val (.int (1 : Int32)), .val (.int (1 : Int32)), .val (.int (1 : Int32)), .val (.ref b1), .val (.long (ib.toInt64)), .second, .val (.long f0), .second, .val (.long s1), .second, .val (.long f1), .second, .val (.long s2), .second, .val (.long f2), .second, .val (.ref b34), .val (.ref b38), .val (.ref b43), .val (.ref b139), .val (.long f0), .second] [(.long f0), (.double (FP.l2d f0))])) _
      refine XS.l2dS X167.here hx rfl (hb hby at_387) rfl rfl ?_
      show Steps p.tables e below (T167.setTop (mkF m 388 #[.val (.int im), .val (.int ib), .val (.int i0), .val (.int i1), .val (.int i2), .val (.long ga), .second, .val (.int (1 : Int32)), .val (.int (1 : Int32)), .val (.int (1 : Int32)), .val (.ref b1), .val (.long (ib.toInt64)), .second, .val (.long f0), .second, .val (.long s1), .second, .val (.long f1), .second, .val (.long s2), .second, .val (.long f2), .second, .val (.ref b34), .val (.ref b38), .val (.ref b43), .val (.ref b139), .val (.long f0), .second] [(.double (FP.l2d f0)), (.double (FP.l2d f0))])) _
      refine XS.dcmpS X167.here hx rfl (hb hby at_388) rfl (v := (0 : Int32)) (own_cmp (rfl : f0 = f0)) ?_
      show Steps p.tables e below (T167.setTop (mkF m 389 #[.val (.int im), .val (.int ib), .val (.int i0), .val (.int i1), .val (.int i2), .val (.long ga), .second, .val (.int (1 : Int32)), .val (.int (1 : Int32)), .val (.int (1 : Int32)), .val (.ref b1), .val (.long (ib.toInt64)), .second, .val (.long f0), .second, .val (.long s1), .second, .val (.long f1), .second, .val (.long s2), .second, .val (.long f2), .second, .val (.ref b34), .val (.ref b38), .val (.ref b43), .val (.ref b139), .val (.long f0), .second] [(.int (0 : Int32))])) _
      refine XS.ifNo X167.here hx rfl (hb hby at_389) rfl ((if0 _ _).trans (teq (by decide : ((0 : Int32) = (0 : Int32)))).2) ?_
      refine XS.iconst X167.here hx rfl (hb hby at_392) ?_
      refine XS.goto X167.here hx rfl (pc0 := 393) (pc' := 397) rfl (hb hby at_393) (by decide) (by decide) ?_
      show Steps p.tables e below (T167.setTop (mkF m 397 #[.val (.int im), .val (.int ib), .val (.int i0), .val (.int i1), .val (.int i2), .val (.long ga), .second, .val (.int (1 : Int32)), .val (.int (1 : Int32)), .val (.int (1 : Int32)), .val (.ref b1), .val (.long (ib.toInt64)), .second, .val (.long f0), .second, .val (.long s1), .second, .val (.long f1), .second, .val (.long s2), .second, .val (.long f2), .second, .val (.ref b34), .val (.ref b38), .val (.ref b43), .val (.ref b139), .val (.long f0), .second] [(.int (1 : Int32))])) _
      exact retN X167 hx (t := .boolean) Bd.returns (by simp) (hb hby at_397) hr
    · show own_Q0 Z im ib i0 i1 i2 ga h0 n0 _ T167.heap _
      rw [e167]
      exact ⟨rfl, N167⟩
  · have k168 : ∀ tq, Steps p.tables e below (T146.setTop (mkF m 274 #[.val (.int im), .val (.int ib), .val (.int i0), .val (.int i1), .val (.int i2), .val (.long ga), .second, .val (.int (2 : Int32)), .val (.int (1 : Int32)), .val (.int (1 : Int32)), .val (.ref b1), .val (.long (ib.toInt64)), .second, .val (.long f0), .second, .val (.long s1), .second, .val (.long f1), .second, .val (.long s2), .second, .val (.long f2), .second, .val (.ref b34), .val (.ref b38), .val (.ref b43), .val (.ref b139), .unset, .unset] [])) tq → Steps p.tables e below (s₁.setTop (entryFrame m #[(.int im), (.int ib), (.int i0), (.int i1), (.int i2), (.long ga)] maxLocals)) tq := by
      intro tq kt
      refine k154 tq ?_
      rw [hn]
      exact kt
    obtain ⟨cq169, kq169, q169a, q169b, q169c⟩ := isOf hZ rfl Eo146
    obtain ⟨_, _, ⟨T169, L169, k169, n169⟩, -, X169, ⟨Lc169, hQ169, l169, y169, z169⟩, st169⟩ := X146.virtualBack hx (y := (⟨"com/example/makespun/makespun/simulate/Timeline", "add", "(II)V"⟩ : MethodName)) (z := (⟨"com/example/makespun/makespun/simulate/Timeline", "add", "(II)V"⟩ : MethodName)) hown (mvT hZ (hw _ (List.mem_of_getElem? (i := 27) rfl))) (mvT hZ (hw _ (List.mem_of_getElem? (i := 28) rfl))) (notFace_of_selects (args := #[]) (mvT hZ (hw _ (List.mem_of_getElem? (i := 30) rfl)))) (mvT hZ (hw _ (List.mem_of_getElem? (i := 30) rfl))) (mvT hZ (hw _ (List.mem_of_getElem? (i := 29) rfl))) (by decide) (backOf (W := 0) (rmA00 l Z a0 hw [] b139 bt146 b38 kb146 (0 : Int32) (0 : Int32) (0 : Int32) (0 : Int32) (0 : Int32) T146.heap n0 z152 Eo146 Ft146 Fs146 Ff146 Fi146 Vt146 ne_b139_bt146 g_b139 g_bt146) hZ (hw _ (List.mem_of_getElem? (i := 31) rfl)) (hw _ (List.mem_of_getElem? (i := 7) rfl)) (by decide) (by decide)) q169a q169c (g := (mkF m 284 #[.val (.int im), .val (.int ib), .val (.int i0), .val (.int i1), .val (.int i2), .val (.long ga), .second, .val (.int (2 : Int32)), .val (.int (1 : Int32)), .val (.int (1 : Int32)), .val (.ref b1), .val (.long (ib.toInt64)), .second, .val (.long f0), .second, .val (.long s1), .second, .val (.long f1), .second, .val (.long s2), .second, .val (.long f2), .second, .val (.ref b34), .val (.ref b38), .val (.ref b43), .val (.ref b139), .unset, .unset] [(.int (0 : Int32)), (.int (0 : Int32)), (.ref b139)])) rfl (by rw [hml]; rfl) (Steps.refl _) (argsL := [(.int (0 : Int32)), (.int (0 : Int32))]) (rest := []) (lenOf pd_3 rfl) rfl (by show 2 * 0 + _ ≤ _; exact Nat.le_of_eq rfl) (hb hby at_284) (fun _ _ => ⟨rfl, rfl, (by decide : 6 + 0 ≤ _), (by decide : 21 + 0 ≤ _)⟩)
    dsimp only [Pt.U, Pt.locs, Pt.cells, Pt.slots] at X169 l169 y169 z169 st169 hQ169
    replace X169 := own_cast X169 l169 y169 z169
    obtain ⟨hv169, N169q, K169, Eo169, Ft169, Fs169, Ff169, Fi169, Vt169⟩ := hQ169
    rw [hv169] at st169
    have N169 := Fr.app N146 N169q
    have f170 := f147.keep K169 (ninS ne_b1_b139 (ninS ne_b1_bt146 nin0))
    have f171 := f148.keep K169 (ninS ne_b34_b139 (ninS ne_b34_bt146 nin0))
    have f172 := f149.keep K169 (ninS ne_b38_b139 (ninS ne_b38_bt146 nin0))
    have f173 := f150.keep K169 (ninS ne_b43_b139 (ninS ne_b43_bt146 nin0))
    have f174 := Eo146.keep K169
    have z175 := Nat.le_trans z152 K169.1
    have kp176 := Keep.trans kp153 K169 (allS (Or.inr sz_b139) (allS (Or.inr sz_bt146) all0))
    obtain ⟨cq177, kq177, q177a, q177b, q177c⟩ := isOf hZ rfl Eo169
    obtain ⟨_, _, ⟨T177, L177, k177, n177⟩, -, X177, ⟨Lc177, hQ177, l177, y177, z177⟩, st177⟩ := X169.virtualBack hx (y := (⟨"com/example/makespun/makespun/simulate/Timeline", "add", "(II)V"⟩ : MethodName)) (z := (⟨"com/example/makespun/makespun/simulate/Timeline", "add", "(II)V"⟩ : MethodName)) hown (mvT hZ (hw _ (List.mem_of_getElem? (i := 27) rfl))) (mvT hZ (hw _ (List.mem_of_getElem? (i := 28) rfl))) (notFace_of_selects (args := #[]) (mvT hZ (hw _ (List.mem_of_getElem? (i := 30) rfl)))) (mvT hZ (hw _ (List.mem_of_getElem? (i := 30) rfl))) (mvT hZ (hw _ (List.mem_of_getElem? (i := 29) rfl))) (by decide) (backOf (W := 0) (rmA11 l Z a0 hw [] b139 bt146 b38 kb146 (1 : Int32) (0 : Int32) (0 : Int32) (0 : Int32) (0 : Int32) T169.heap n0 z175 Eo169 Ft169 Fs169 Ff169 Fi169 Vt169 ne_b139_bt146 g_b139 g_bt146) hZ (hw _ (List.mem_of_getElem? (i := 31) rfl)) (hw _ (List.mem_of_getElem? (i := 7) rfl)) (by decide) (by decide)) q177a q177c (g := (mkF m 306 #[.val (.int im), .val (.int ib), .val (.int i0), .val (.int i1), .val (.int i2), .val (.long ga), .second, .val (.int (2 : Int32)), .val (.int (1 : Int32)), .val (.int (1 : Int32)), .val (.ref b1), .val (.long (ib.toInt64)), .second, .val (.long f0), .second, .val (.long s1), .second, .val (.long f1), .second, .val (.long s2), .second, .val (.long f2), .second, .val (.ref b34), .val (.ref b38), .val (.ref b43), .val (.ref b139), .unset, .unset] [(.int (1 : Int32)), (.int (1 : Int32)), (.ref b139)])) rfl (by rw [hml]; rfl) (Steps.refl _) (argsL := [(.int (1 : Int32)), (.int (1 : Int32))]) (rest := []) (lenOf pd_3 rfl) rfl (by show 2 * 0 + _ ≤ _; exact Nat.le_of_eq rfl) (hb hby at_306) (fun _ _ => ⟨rfl, rfl, (by decide : 6 + 0 ≤ _), (by decide : 21 + 0 ≤ _)⟩)
    dsimp only [Pt.U, Pt.locs, Pt.cells, Pt.slots] at X177 l177 y177 z177 st177 hQ177
    replace X177 := own_cast X177 l177 y177 z177
    obtain ⟨hv177, N177q, K177, Eo177, Ft177, Fs177, Ff177, Fi177, Vt177⟩ := hQ177
    rw [hv177] at st177
    have N177 := Fr.app N169 N177q
    have f178 := f170.keep K177 (ninS ne_b1_b139 (ninS ne_b1_bt146 nin0))
    have f179 := f171.keep K177 (ninS ne_b34_b139 (ninS ne_b34_bt146 nin0))
    have f180 := f172.keep K177 (ninS ne_b38_b139 (ninS ne_b38_bt146 nin0))
    have f181 := f173.keep K177 (ninS ne_b43_b139 (ninS ne_b43_bt146 nin0))
    have f182 := Eo169.keep K177
    have z183 := Nat.le_trans z175 K177.1
    have kp184 := Keep.trans kp176 K177 (allS (Or.inr sz_b139) (allS (Or.inr sz_bt146) all0))
    obtain ⟨clq185, Arq185, cq185, Sq185, nq185, Hq185, Gq185⟩ := id f181
    have hiq185 : ¬ ((0 : Int32) < 0 ∨ clq185.slots.size ≤ ((0 : Int32)).toNatClampNeg) := inb_of Sq185 ⟨by decide, by decide⟩
    have haq185 : clq185.slots[((0 : Int32)).toNatClampNeg]? = some (.long f0) := Hq185.at hiq185 rfl
    obtain ⟨clq186, Arq186, cq186, Sq186, nq186, Hq186, Gq186⟩ := id f181
    have hiq186 : ¬ ((1 : Int32) < 0 ∨ clq186.slots.size ≤ ((1 : Int32)).toNatClampNeg) := inb_of Sq186 ⟨by decide, by decide⟩
    have haq186 : clq186.slots[((1 : Int32)).toNatClampNeg]? = some (.long f1) := Hq186.at hiq186 rfl
    obtain ⟨_, _, ⟨T187, L187, k187, n187⟩, -, X187, ⟨Lc187, hQ187, l187, y187, z187⟩, st187⟩ := Jvm.LawKit.callS X177 hx (y := (⟨"java/lang/Math", "max", "(JJ)J"⟩ : MethodName)) hown (mvT hZ (hw _ (List.mem_of_getElem? (i := 38) rfl))) (mvT hZ (hw _ (List.mem_of_getElem? (i := 39) rfl))) (mvT hZ (hw _ (List.mem_of_getElem? (i := 40) rfl))) (mvT hZ (hw _ (List.mem_of_getElem? (i := 41) rfl))) (by decide) (backOf (W := 0) (rmX l Z a0 hw [] f0 f1 T177.heap n0 z183) hZ (hw _ (List.mem_of_getElem? (i := 41) rfl)) (hw _ (List.mem_of_getElem? (i := 40) rfl)) (by decide) (by decide)) (g := (mkF m 358 #[.val (.int im), .val (.int ib), .val (.int i0), .val (.int i1), .val (.int i2), .val (.long ga), .second, .val (.int (2 : Int32)), .val (.int (1 : Int32)), .val (.int (1 : Int32)), .val (.ref b1), .val (.long (ib.toInt64)), .second, .val (.long f0), .second, .val (.long s1), .second, .val (.long f1), .second, .val (.long s2), .second, .val (.long f2), .second, .val (.ref b34), .val (.ref b38), .val (.ref b43), .val (.ref b139), .val (.long f0), .second] [(.long f1), (.long f0)])) rfl (by rw [hml]; rfl) (argsL := [(.long f0), (.long f1)]) (rest := []) (lenOf pd_4 rfl) rfl (by show 2 * 0 + _ ≤ _; exact Nat.le_of_eq rfl) (hb hby at_358) (fun _ _ => ⟨rfl, rfl, (by decide : 6 + 0 ≤ _), (by decide : 21 + 0 ≤ _)⟩)
    dsimp only [Pt.U, Pt.locs, Pt.cells, Pt.slots] at X187 l187 y187 z187 st187 hQ187
    replace X187 := own_cast X187 l187 y187 z187
    obtain ⟨hv187, N187q, e187⟩ := hQ187
    rw [hv187] at st187
    have N187 := Fr.app N177 N187q
    obtain ⟨cq188, kq188, q188a, q188b, q188c⟩ := isOf hZ e187 Eo177
    obtain ⟨_, _, ⟨T188, L188, k188, n188⟩, -, X188, ⟨Lc188, hQ188, l188, y188, z188⟩, st188⟩ := X187.virtualBack hx (y := (⟨"com/example/makespun/makespun/simulate/Timeline", "freeAt", "()D"⟩ : MethodName)) (z := (⟨"com/example/makespun/makespun/simulate/Timeline", "freeAt", "()D"⟩ : MethodName)) hown (mvT hZ (hw _ (List.mem_of_getElem? (i := 20) rfl))) (mvT hZ (hw _ (List.mem_of_getElem? (i := 21) rfl))) (notFace_of_selects (args := #[]) (mvT hZ (hw _ (List.mem_of_getElem? (i := 23) rfl)))) (mvT hZ (hw _ (List.mem_of_getElem? (i := 23) rfl))) (mvT hZ (hw _ (List.mem_of_getElem? (i := 22) rfl))) (by decide) (backOf (W := 0) (rmF21 l Z a0 hw [] b139 bt146 b38 kb146 k38 (0 : Int32) (0 : Int32) (0 : Int32) (FP.l2d f0) (FP.l2d f1) (FP.l2d f2) T177.heap n0 z183 Ft177 Fs177 Ff177 Vt177 f180) hZ (hw _ (List.mem_of_getElem? (i := 24) rfl)) (hw _ (List.mem_of_getElem? (i := 7) rfl)) (by decide) (by decide)) q188a q188c (g := (mkF m 382 #[.val (.int im), .val (.int ib), .val (.int i0), .val (.int i1), .val (.int i2), .val (.long ga), .second, .val (.int (2 : Int32)), .val (.int (1 : Int32)), .val (.int (1 : Int32)), .val (.ref b1), .val (.long (ib.toInt64)), .second, .val (.long f0), .second, .val (.long s1), .second, .val (.long f1), .second, .val (.long s2), .second, .val (.long f2), .second, .val (.ref b34), .val (.ref b38), .val (.ref b43), .val (.ref b139), .val (.long (own_max f0 f1)), .second] [(.ref b139)])) rfl (by rw [hml]; rfl) (Steps.refl _) (argsL := []) (rest := []) (lenOf pd_2 rfl) rfl (by show 2 * 0 + _ ≤ _; exact Nat.le_of_eq rfl) (hb hby at_382) (fun _ _ => ⟨rfl, e187, (by decide : 6 + 0 ≤ _), (by decide : 21 + 0 ≤ _)⟩)
    dsimp only [Pt.U, Pt.locs, Pt.cells, Pt.slots] at X188 l188 y188 z188 st188 hQ188
    replace X188 := own_cast X188 l188 y188 z188
    obtain ⟨hv188, N188q, e188⟩ := hQ188
    rw [hv188] at st188
    have N188 := Fr.app N187 N188q
    obtain ⟨fs, hr, hrun, hended, hW, hsame⟩ := X188.leave (v := some (.int (1 : Int32))) (fun h => by rw [Bd.returns] at h; cases h)
    refine ⟨_, _, k168 _ ?_, hrun, hended, _, _, rfl, ?_, ⟨_, rfl⟩, hW, hsame.mono (by decide) (by decide)⟩
    · refine XS.iload X146.here hx rfl (hb hby at_274) rfl ?_
      show Steps p.tables e below (T146.setTop (mkF m 276 #[.val (.int im), .val (.int ib), .val (.int i0), .val (.int i1), .val (.int i2), .val (.long ga), .second, .val (.int (2 : Int32)), .val (.int (1 : Int32)), .val (.int (1 : Int32)), .val (.ref b1), .val (.long (ib.toInt64)), .second, .val (.long f0), .second, .val (.long s1), .second, .val (.long f1), .second, .val (.long s2), .second, .val (.long f2), .second, .val (.ref b34), .val (.ref b38), .val (.ref b43), .val (.ref b139), .unset, .unset] [(.int (2 : Int32))])) _
      refine XS.iconst X146.here hx rfl (hb hby at_276) ?_
      show Steps p.tables e below (T146.setTop (mkF m 277 #[.val (.int im), .val (.int ib), .val (.int i0), .val (.int i1), .val (.int i2), .val (.long ga), .second, .val (.int (2 : Int32)), .val (.int (1 : Int32)), .val (.int (1 : Int32)), .val (.ref b1), .val (.long (ib.toInt64)), .second, .val (.long f0), .second, .val (.long s1), .second, .val (.long f1), .second, .val (.long s2), .second, .val (.long f2), .second, .val (.ref b34), .val (.ref b38), .val (.ref b43), .val (.ref b139), .unset, .unset] [(.int (1 : Int32)), (.int (2 : Int32))])) _
      refine XS.icmpNo X146.here hx rfl (hb hby at_277) rfl (flt (by decide : ¬ ((2 : Int32) < (1 : Int32)))).1 ?_
      refine XS.aload X146.here hx rfl (hb hby at_280) rfl rfl ?_
      refine XS.iconst X146.here hx rfl (hb hby at_282) ?_
      refine XS.iconst X146.here hx rfl (hb hby at_283) ?_
      refine st169.trans ?_
      refine XS.iload X169.here hx rfl (hb hby at_287) rfl ?_
      show Steps p.tables e below (T169.setTop (mkF m 289 #[.val (.int im), .val (.int ib), .val (.int i0), .val (.int i1), .val (.int i2), .val (.long ga), .second, .val (.int (2 : Int32)), .val (.int (1 : Int32)), .val (.int (1 : Int32)), .val (.ref b1), .val (.long (ib.toInt64)), .second, .val (.long f0), .second, .val (.long s1), .second, .val (.long f1), .second, .val (.long s2), .second, .val (.long f2), .second, .val (.ref b34), .val (.ref b38), .val (.ref b43), .val (.ref b139), .unset, .unset] [(.int (2 : Int32))])) _
      refine XS.iconst X169.here hx rfl (hb hby at_289) ?_
      show Steps p.tables e below (T169.setTop (mkF m 290 #[.val (.int im), .val (.int ib), .val (.int i0), .val (.int i1), .val (.int i2), .val (.long ga), .second, .val (.int (2 : Int32)), .val (.int (1 : Int32)), .val (.int (1 : Int32)), .val (.ref b1), .val (.long (ib.toInt64)), .second, .val (.long f0), .second, .val (.long s1), .second, .val (.long f1), .second, .val (.long s2), .second, .val (.long f2), .second, .val (.ref b34), .val (.ref b38), .val (.ref b43), .val (.ref b139), .unset, .unset] [(.int (2 : Int32)), (.int (2 : Int32))])) _
      refine XS.icmpNo X169.here hx rfl (hb hby at_290) rfl (flt (by decide : ¬ ((2 : Int32) < (2 : Int32)))).1 ?_
      refine XS.aload X169.here hx rfl (hb hby at_293) rfl rfl ?_
      refine XS.iload X169.here hx rfl (hb hby at_295) rfl ?_
      show Steps p.tables e below (T169.setTop (mkF m 297 #[.val (.int im), .val (.int ib), .val (.int i0), .val (.int i1), .val (.int i2), .val (.long ga), .second, .val (.int (2 : Int32)), .val (.int (1 : Int32)), .val (.int (1 : Int32)), .val (.ref b1), .val (.long (ib.toInt64)), .second, .val (.long f0), .second, .val (.long s1), .second, .val (.long f1), .second, .val (.long s2), .second, .val (.long f2), .second, .val (.ref b34), .val (.ref b38), .val (.ref b43), .val (.ref b139), .unset, .unset] [(.int (1 : Int32)), (.ref b139)])) _
      refine XS.ifNo X169.here hx rfl (hb hby at_297) rfl ((if0 _ _).trans (feq (by decide : ¬ ((1 : Int32) = (0 : Int32)))).1) ?_
      refine XS.iconst X169.here hx rfl (hb hby at_300) ?_
      refine XS.goto X169.here hx rfl (pc0 := 301) (pc' := 305) rfl (hb hby at_301) (by decide) (by decide) ?_
      refine XS.iconst X169.here hx rfl (hb hby at_305) ?_
      show Steps p.tables e below (T169.setTop (mkF m 306 #[.val (.int im), .val (.int ib), .val (.int i0), .val (.int i1), .val (.int i2), .val (.long ga), .second, .val (.int (2 : Int32)), .val (.int (1 : Int32)), .val (.int (1 : Int32)), .val (.ref b1), .val (.long (ib.toInt64)), .second, .val (.long f0), .second, .val (.long s1), .second, .val (.long f1), .second, .val (.long s2), .second, .val (.long f2), .second, .val (.ref b34), .val (.ref b38), .val (.ref b43), .val (.ref b139), .unset, .unset] [(.int (1 : Int32)), (.int (1 : Int32)), (.ref b139)])) _
      refine st177.trans ?_
      refine XS.iload X177.here hx rfl (hb hby at_309) rfl ?_
      refine XS.iconst X177.here hx rfl (hb hby at_311) ?_
      show Steps p.tables e below (T177.setTop (mkF m 312 #[.val (.int im), .val (.int ib), .val (.int i0), .val (.int i1), .val (.int i2), .val (.long ga), .second, .val (.int (2 : Int32)), .val (.int (1 : Int32)), .val (.int (1 : Int32)), .val (.ref b1), .val (.long (ib.toInt64)), .second, .val (.long f0), .second, .val (.long s1), .second, .val (.long f1), .second, .val (.long s2), .second, .val (.long f2), .second, .val (.ref b34), .val (.ref b38), .val (.ref b43), .val (.ref b139), .unset, .unset] [(.int (3 : Int32)), (.int (2 : Int32))])) _
      refine XS.icmpYes X177.here hx rfl (pc0 := 312) (pc' := 331) rfl (hb hby at_312) rfl (feq (by decide : ¬ ((2 : Int32) = (3 : Int32)))).2 (by decide) (by decide) ?_
      refine XS.lconst X177.here hx rfl (hb hby at_331) ?_
      refine XS.lstore X177.here hx rfl (hb hby at_332) rfl (l' := #[.val (.int im), .val (.int ib), .val (.int i0), .val (.int i1), .val (.int i2), .val (.long ga), .second, .val (.int (2 : Int32)), .val (.int (1 : Int32)), .val (.int (1 : Int32)), .val (.ref b1), .val (.long (ib.toInt64)), .second, .val (.long f0), .second, .val (.long s1), .second, .val (.long f1), .second, .val (.long s2), .second, .val (.long f2), .second, .val (.ref b34), .val (.ref b38), .val (.ref b43), .val (.ref b139), .val (.long (0 : Int64)), .second]) rfl ?_
      refine XS.iload X177.here hx rfl (hb hby at_334) rfl ?_
      show Steps p.tables e below (T177.setTop (mkF m 336 #[.val (.int im), .val (.int ib), .val (.int i0), .val (.int i1), .val (.int i2), .val (.long ga), .second, .val (.int (2 : Int32)), .val (.int (1 : Int32)), .val (.int (1 : Int32)), .val (.ref b1), .val (.long (ib.toInt64)), .second, .val (.long f0), .second, .val (.long s1), .second, .val (.long f1), .second, .val (.long s2), .second, .val (.long f2), .second, .val (.ref b34), .val (.ref b38), .val (.ref b43), .val (.ref b139), .val (.long (0 : Int64)), .second] [(.int (2 : Int32))])) _
      refine XS.iconst X177.here hx rfl (hb hby at_336) ?_
      show Steps p.tables e below (T177.setTop (mkF m 337 #[.val (.int im), .val (.int ib), .val (.int i0), .val (.int i1), .val (.int i2), .val (.long ga), .second, .val (.int (2 : Int32)), .val (.int (1 : Int32)), .val (.int (1 : Int32)), .val (.ref b1), .val (.long (ib.toInt64)), .second, .val (.long f0), .second, .val (.long s1), .second, .val (.long f1), .second, .val (.long s2), .second, .val (.long f2), .second, .val (.ref b34), .val (.ref b38), .val (.ref b43), .val (.ref b139), .val (.long (0 : Int64)), .second] [(.int (1 : Int32)), (.int (2 : Int32))])) _
      refine XS.icmpNo X177.here hx rfl (hb hby at_337) rfl (flt (by decide : ¬ ((2 : Int32) < (1 : Int32)))).1 ?_
      refine XS.aload X177.here hx rfl (hb hby at_340) rfl rfl ?_
      refine XS.iconst X177.here hx rfl (hb hby at_342) ?_
      refine X177.laload hx (j := (0 : Int32)) (v := (.long f0)) (by exact Arq185.1) (State.isArrayOf_alike hZ.alike Arq185.2.1) Arq185.2.2 hiq185 haq185 (g := (mkF m 343 #[.val (.int im), .val (.int ib), .val (.int i0), .val (.int i1), .val (.int i2), .val (.long ga), .second, .val (.int (2 : Int32)), .val (.int (1 : Int32)), .val (.int (1 : Int32)), .val (.ref b1), .val (.long (ib.toInt64)), .second, .val (.long f0), .second, .val (.long s1), .second, .val (.long f1), .second, .val (.long s2), .second, .val (.long f2), .second, .val (.ref b34), .val (.ref b38), .val (.ref b43), .val (.ref b139), .val (.long (0 : Int64)), .second] [(.int (0 : Int32)), (.ref b43)])) rfl rfl (hb hby at_343) _ ?_
      refine XS.lstore X177.here hx rfl (hb hby at_344) rfl (l' := #[.val (.int im), .val (.int ib), .val (.int i0), .val (.int i1), .val (.int i2), .val (.long ga), .second, .val (.int (2 : Int32)), .val (.int (1 : Int32)), .val (.int (1 : Int32)), .val (.ref b1), .val (.long (ib.toInt64)), .second, .val (.long f0), .second, .val (.long s1), .second, .val (.long f1), .second, .val (.long s2), .second, .val (.long f2), .second, .val (.ref b34), .val (.ref b38), .val (.ref b43), .val (.ref b139), .val (.long f0), .second]) rfl ?_
      refine XS.iload X177.here hx rfl (hb hby at_346) rfl ?_
      show Steps p.tables e below (T177.setTop (mkF m 348 #[.val (.int im), .val (.int ib), .val (.int i0), .val (.int i1), .val (.int i2), .val (.long ga), .second, .val (.int (2 : Int32)), .val (.int (1 : Int32)), .val (.int (1 : Int32)), .val (.ref b1), .val (.long (ib.toInt64)), .second, .val (.long f0), .second, .val (.long s1), .second, .val (.long f1), .second, .val (.long s2), .second, .val (.long f2), .second, .val (.ref b34), .val (.ref b38), .val (.ref b43), .val (.ref b139), .val (.long f0), .second] [(.int (2 : Int32))])) _
      refine XS.iconst X177.here hx rfl (hb hby at_348) ?_
      show Steps p.tables e below (T177.setTop (mkF m 349 #[.val (.int im), .val (.int ib), .val (.int i0), .val (.int i1), .val (.int i2), .val (.long ga), .second, .val (.int (2 : Int32)), .val (.int (1 : Int32)), .val (.int (1 : Int32)), .val (.ref b1), .val (.long (ib.toInt64)), .second, .val (.long f0), .second, .val (.long s1), .second, .val (.long f1), .second, .val (.long s2), .second, .val (.long f2), .second, .val (.ref b34), .val (.ref b38), .val (.ref b43), .val (.ref b139), .val (.long f0), .second] [(.int (2 : Int32)), (.int (2 : Int32))])) _
      refine XS.icmpNo X177.here hx rfl (hb hby at_349) rfl (flt (by decide : ¬ ((2 : Int32) < (2 : Int32)))).1 ?_
      refine XS.lload X177.here hx rfl (hb hby at_352) rfl ?_
      refine XS.aload X177.here hx rfl (hb hby at_354) rfl rfl ?_
      refine XS.iconst X177.here hx rfl (hb hby at_356) ?_
      refine X177.laload hx (j := (1 : Int32)) (v := (.long f1)) (by exact Arq186.1) (State.isArrayOf_alike hZ.alike Arq186.2.1) Arq186.2.2 hiq186 haq186 (g := (mkF m 357 #[.val (.int im), .val (.int ib), .val (.int i0), .val (.int i1), .val (.int i2), .val (.long ga), .second, .val (.int (2 : Int32)), .val (.int (1 : Int32)), .val (.int (1 : Int32)), .val (.ref b1), .val (.long (ib.toInt64)), .second, .val (.long f0), .second, .val (.long s1), .second, .val (.long f1), .second, .val (.long s2), .second, .val (.long f2), .second, .val (.ref b34), .val (.ref b38), .val (.ref b43), .val (.ref b139), .val (.long f0), .second] [(.int (1 : Int32)), (.ref b43), (.long f0)])) rfl rfl (hb hby at_357) _ ?_
      refine st187 _ ?_
      show Steps p.tables e below (T187.setTop (mkF m 361 #[.val (.int im), .val (.int ib), .val (.int i0), .val (.int i1), .val (.int i2), .val (.long ga), .second, .val (.int (2 : Int32)), .val (.int (1 : Int32)), .val (.int (1 : Int32)), .val (.ref b1), .val (.long (ib.toInt64)), .second, .val (.long f0), .second, .val (.long s1), .second, .val (.long f1), .second, .val (.long s2), .second, .val (.long f2), .second, .val (.ref b34), .val (.ref b38), .val (.ref b43), .val (.ref b139), .val (.long f0), .second] [(.long (own_max f0 f1))])) _
      refine XS.lstore X187.here hx rfl (hb hby at_361) rfl (l' := #[.val (.int im), .val (.int ib), .val (.int i0), .val (.int i1), .val (.int i2), .val (.long ga), .second, .val (.int (2 : Int32)), .val (.int (1 : Int32)), .val (.int (1 : Int32)), .val (.ref b1), .val (.long (ib.toInt64)), .second, .val (.long f0), .second, .val (.long s1), .second, .val (.long f1), .second, .val (.long s2), .second, .val (.long f2), .second, .val (.ref b34), .val (.ref b38), .val (.ref b43), .val (.ref b139), .val (.long (own_max f0 f1)), .second]) rfl ?_
      refine XS.iload X187.here hx rfl (hb hby at_363) rfl ?_
      refine XS.iconst X187.here hx rfl (hb hby at_365) ?_
      show Steps p.tables e below (T187.setTop (mkF m 366 #[.val (.int im), .val (.int ib), .val (.int i0), .val (.int i1), .val (.int i2), .val (.long ga), .second, .val (.int (2 : Int32)), .val (.int (1 : Int32)), .val (.int (1 : Int32)), .val (.ref b1), .val (.long (ib.toInt64)), .second, .val (.long f0), .second, .val (.long s1), .second, .val (.long f1), .second, .val (.long s2), .second, .val (.long f2), .second, .val (.ref b34), .val (.ref b38), .val (.ref b43), .val (.ref b139), .val (.long (own_max f0 f1)), .second] [(.int (3 : Int32)), (.int (2 : Int32))])) _
      refine XS.icmpYes X187.here hx rfl (pc0 := 366) (pc' := 380) rfl (hb hby at_366) rfl (feq (by decide : ¬ ((2 : Int32) = (3 : Int32)))).2 (by decide) (by decide) ?_
      refine XS.aload X187.here hx rfl (hb hby at_380) rfl rfl ?_
      refine st188.trans ?_
      refine XS.lload X188.here hx rfl (hb hby at_385) rfl ?_
      show Steps p.tables e below (T188.setTop (mkF m 387 #[.val (.int im), .val (.int ib), .val (.int i0), .val (.int i1), .val (.int i2), .val (.long ga), .second, .val (.int (2 : Int32)), .val (.int (1 : Int32)), .val (.int (1 : Int32)), .val (.ref b1), .val (.long (ib.toInt64)), .second, .val (.long f0), .second, .val (.long s1), .second, .val (.long f1), .second, .val (.long s2), .second, .val (.long f2), .second, .val (.ref b34), .val (.ref b38), .val (.ref b43), .val (.ref b139), .val (.long (own_max f0 f1)), .second] [(.long (own_max f0 f1)), (.double (FP.l2d f1))])) _
      refine XS.l2dS X188.here hx rfl (hb hby at_387) rfl rfl ?_
      show Steps p.tables e below (T188.setTop (mkF m 388 #[.val (.int im), .val (.int ib), .val (.int i0), .val (.int i1), .val (.int i2), .val (.long ga), .second, .val (.int (2 : Int32)), .val (.int (1 : Int32)), .val (.int (1 : Int32)), .val (.ref b1), .val (.long (ib.toInt64)), .second, .val (.long f0), .second, .val (.long s1), .second, .val (.long f1), .second, .val (.long s2), .second, .val (.long f2), .second, .val (.ref b34), .val (.ref b38), .val (.ref b43), .val (.ref b139), .val (.long (own_max f0 f1)), .second] [(.double (FP.l2d (own_max f0 f1))), (.double (FP.l2d f1))])) _
      refine XS.dcmpS X188.here hx rfl (hb hby at_388) rfl (v := (0 : Int32)) (own_cmp (show f1 = (own_max f0 f1) from ((congrArg (fun z => own_max z f1) rfl).trans (own_max_r ho.1)).symm)) ?_
      show Steps p.tables e below (T188.setTop (mkF m 389 #[.val (.int im), .val (.int ib), .val (.int i0), .val (.int i1), .val (.int i2), .val (.long ga), .second, .val (.int (2 : Int32)), .val (.int (1 : Int32)), .val (.int (1 : Int32)), .val (.ref b1), .val (.long (ib.toInt64)), .second, .val (.long f0), .second, .val (.long s1), .second, .val (.long f1), .second, .val (.long s2), .second, .val (.long f2), .second, .val (.ref b34), .val (.ref b38), .val (.ref b43), .val (.ref b139), .val (.long (own_max f0 f1)), .second] [(.int (0 : Int32))])) _
      refine XS.ifNo X188.here hx rfl (hb hby at_389) rfl ((if0 _ _).trans (teq (by decide : ((0 : Int32) = (0 : Int32)))).2) ?_
      refine XS.iconst X188.here hx rfl (hb hby at_392) ?_
      refine XS.goto X188.here hx rfl (pc0 := 393) (pc' := 397) rfl (hb hby at_393) (by decide) (by decide) ?_
      show Steps p.tables e below (T188.setTop (mkF m 397 #[.val (.int im), .val (.int ib), .val (.int i0), .val (.int i1), .val (.int i2), .val (.long ga), .second, .val (.int (2 : Int32)), .val (.int (1 : Int32)), .val (.int (1 : Int32)), .val (.ref b1), .val (.long (ib.toInt64)), .second, .val (.long f0), .second, .val (.long s1), .second, .val (.long f1), .second, .val (.long s2), .second, .val (.long f2), .second, .val (.ref b34), .val (.ref b38), .val (.ref b43), .val (.ref b139), .val (.long (own_max f0 f1)), .second] [(.int (1 : Int32))])) _
      exact retN X188 hx (t := .boolean) Bd.returns (by simp) (hb hby at_397) hr
    · show own_Q0 Z im ib i0 i1 i2 ga h0 n0 _ T188.heap _
      rw [e188]
      exact ⟨rfl, N188⟩
  · have k189 : ∀ tq, Steps p.tables e below (T146.setTop (mkF m 274 #[.val (.int im), .val (.int ib), .val (.int i0), .val (.int i1), .val (.int i2), .val (.long ga), .second, .val (.int (3 : Int32)), .val (.int (1 : Int32)), .val (.int (1 : Int32)), .val (.ref b1), .val (.long (ib.toInt64)), .second, .val (.long f0), .second, .val (.long s1), .second, .val (.long f1), .second, .val (.long s2), .second, .val (.long f2), .second, .val (.ref b34), .val (.ref b38), .val (.ref b43), .val (.ref b139), .unset, .unset] [])) tq → Steps p.tables e below (s₁.setTop (entryFrame m #[(.int im), (.int ib), (.int i0), (.int i1), (.int i2), (.long ga)] maxLocals)) tq := by
      intro tq kt
      refine k154 tq ?_
      rw [hn]
      exact kt
    obtain ⟨cq190, kq190, q190a, q190b, q190c⟩ := isOf hZ rfl Eo146
    obtain ⟨_, _, ⟨T190, L190, k190, n190⟩, -, X190, ⟨Lc190, hQ190, l190, y190, z190⟩, st190⟩ := X146.virtualBack hx (y := (⟨"com/example/makespun/makespun/simulate/Timeline", "add", "(II)V"⟩ : MethodName)) (z := (⟨"com/example/makespun/makespun/simulate/Timeline", "add", "(II)V"⟩ : MethodName)) hown (mvT hZ (hw _ (List.mem_of_getElem? (i := 27) rfl))) (mvT hZ (hw _ (List.mem_of_getElem? (i := 28) rfl))) (notFace_of_selects (args := #[]) (mvT hZ (hw _ (List.mem_of_getElem? (i := 30) rfl)))) (mvT hZ (hw _ (List.mem_of_getElem? (i := 30) rfl))) (mvT hZ (hw _ (List.mem_of_getElem? (i := 29) rfl))) (by decide) (backOf (W := 0) (rmA00 l Z a0 hw [] b139 bt146 b38 kb146 (0 : Int32) (0 : Int32) (0 : Int32) (0 : Int32) (0 : Int32) T146.heap n0 z152 Eo146 Ft146 Fs146 Ff146 Fi146 Vt146 ne_b139_bt146 g_b139 g_bt146) hZ (hw _ (List.mem_of_getElem? (i := 31) rfl)) (hw _ (List.mem_of_getElem? (i := 7) rfl)) (by decide) (by decide)) q190a q190c (g := (mkF m 284 #[.val (.int im), .val (.int ib), .val (.int i0), .val (.int i1), .val (.int i2), .val (.long ga), .second, .val (.int (3 : Int32)), .val (.int (1 : Int32)), .val (.int (1 : Int32)), .val (.ref b1), .val (.long (ib.toInt64)), .second, .val (.long f0), .second, .val (.long s1), .second, .val (.long f1), .second, .val (.long s2), .second, .val (.long f2), .second, .val (.ref b34), .val (.ref b38), .val (.ref b43), .val (.ref b139), .unset, .unset] [(.int (0 : Int32)), (.int (0 : Int32)), (.ref b139)])) rfl (by rw [hml]; rfl) (Steps.refl _) (argsL := [(.int (0 : Int32)), (.int (0 : Int32))]) (rest := []) (lenOf pd_3 rfl) rfl (by show 2 * 0 + _ ≤ _; exact Nat.le_of_eq rfl) (hb hby at_284) (fun _ _ => ⟨rfl, rfl, (by decide : 6 + 0 ≤ _), (by decide : 21 + 0 ≤ _)⟩)
    dsimp only [Pt.U, Pt.locs, Pt.cells, Pt.slots] at X190 l190 y190 z190 st190 hQ190
    replace X190 := own_cast X190 l190 y190 z190
    obtain ⟨hv190, N190q, K190, Eo190, Ft190, Fs190, Ff190, Fi190, Vt190⟩ := hQ190
    rw [hv190] at st190
    have N190 := Fr.app N146 N190q
    have f191 := f147.keep K190 (ninS ne_b1_b139 (ninS ne_b1_bt146 nin0))
    have f192 := f148.keep K190 (ninS ne_b34_b139 (ninS ne_b34_bt146 nin0))
    have f193 := f149.keep K190 (ninS ne_b38_b139 (ninS ne_b38_bt146 nin0))
    have f194 := f150.keep K190 (ninS ne_b43_b139 (ninS ne_b43_bt146 nin0))
    have f195 := Eo146.keep K190
    have z196 := Nat.le_trans z152 K190.1
    have kp197 := Keep.trans kp153 K190 (allS (Or.inr sz_b139) (allS (Or.inr sz_bt146) all0))
    obtain ⟨cq198, kq198, q198a, q198b, q198c⟩ := isOf hZ rfl Eo190
    obtain ⟨_, _, ⟨T198, L198, k198, n198⟩, -, X198, ⟨Lc198, hQ198, l198, y198, z198⟩, st198⟩ := X190.virtualBack hx (y := (⟨"com/example/makespun/makespun/simulate/Timeline", "add", "(II)V"⟩ : MethodName)) (z := (⟨"com/example/makespun/makespun/simulate/Timeline", "add", "(II)V"⟩ : MethodName)) hown (mvT hZ (hw _ (List.mem_of_getElem? (i := 27) rfl))) (mvT hZ (hw _ (List.mem_of_getElem? (i := 28) rfl))) (notFace_of_selects (args := #[]) (mvT hZ (hw _ (List.mem_of_getElem? (i := 30) rfl)))) (mvT hZ (hw _ (List.mem_of_getElem? (i := 30) rfl))) (mvT hZ (hw _ (List.mem_of_getElem? (i := 29) rfl))) (by decide) (backOf (W := 0) (rmA11 l Z a0 hw [] b139 bt146 b38 kb146 (1 : Int32) (0 : Int32) (0 : Int32) (0 : Int32) (0 : Int32) T190.heap n0 z196 Eo190 Ft190 Fs190 Ff190 Fi190 Vt190 ne_b139_bt146 g_b139 g_bt146) hZ (hw _ (List.mem_of_getElem? (i := 31) rfl)) (hw _ (List.mem_of_getElem? (i := 7) rfl)) (by decide) (by decide)) q198a q198c (g := (mkF m 306 #[.val (.int im), .val (.int ib), .val (.int i0), .val (.int i1), .val (.int i2), .val (.long ga), .second, .val (.int (3 : Int32)), .val (.int (1 : Int32)), .val (.int (1 : Int32)), .val (.ref b1), .val (.long (ib.toInt64)), .second, .val (.long f0), .second, .val (.long s1), .second, .val (.long f1), .second, .val (.long s2), .second, .val (.long f2), .second, .val (.ref b34), .val (.ref b38), .val (.ref b43), .val (.ref b139), .unset, .unset] [(.int (1 : Int32)), (.int (1 : Int32)), (.ref b139)])) rfl (by rw [hml]; rfl) (Steps.refl _) (argsL := [(.int (1 : Int32)), (.int (1 : Int32))]) (rest := []) (lenOf pd_3 rfl) rfl (by show 2 * 0 + _ ≤ _; exact Nat.le_of_eq rfl) (hb hby at_306) (fun _ _ => ⟨rfl, rfl, (by decide : 6 + 0 ≤ _), (by decide : 21 + 0 ≤ _)⟩)
    dsimp only [Pt.U, Pt.locs, Pt.cells, Pt.slots] at X198 l198 y198 z198 st198 hQ198
    replace X198 := own_cast X198 l198 y198 z198
    obtain ⟨hv198, N198q, K198, Eo198, Ft198, Fs198, Ff198, Fi198, Vt198⟩ := hQ198
    rw [hv198] at st198
    have N198 := Fr.app N190 N198q
    have f199 := f191.keep K198 (ninS ne_b1_b139 (ninS ne_b1_bt146 nin0))
    have f200 := f192.keep K198 (ninS ne_b34_b139 (ninS ne_b34_bt146 nin0))
    have f201 := f193.keep K198 (ninS ne_b38_b139 (ninS ne_b38_bt146 nin0))
    have f202 := f194.keep K198 (ninS ne_b43_b139 (ninS ne_b43_bt146 nin0))
    have f203 := Eo190.keep K198
    have z204 := Nat.le_trans z196 K198.1
    have kp205 := Keep.trans kp197 K198 (allS (Or.inr sz_b139) (allS (Or.inr sz_bt146) all0))
    obtain ⟨cq206, kq206, q206a, q206b, q206c⟩ := isOf hZ rfl Eo198
    obtain ⟨_, _, ⟨T206, L206, k206, n206⟩, -, X206, ⟨Lc206, hQ206, l206, y206, z206⟩, st206⟩ := X198.virtualBack hx (y := (⟨"com/example/makespun/makespun/simulate/Timeline", "add", "(II)V"⟩ : MethodName)) (z := (⟨"com/example/makespun/makespun/simulate/Timeline", "add", "(II)V"⟩ : MethodName)) hown (mvT hZ (hw _ (List.mem_of_getElem? (i := 27) rfl))) (mvT hZ (hw _ (List.mem_of_getElem? (i := 28) rfl))) (notFace_of_selects (args := #[]) (mvT hZ (hw _ (List.mem_of_getElem? (i := 30) rfl)))) (mvT hZ (hw _ (List.mem_of_getElem? (i := 30) rfl))) (mvT hZ (hw _ (List.mem_of_getElem? (i := 29) rfl))) (by decide) (backOf (W := 0) (rmA22 l Z a0 hw [] b139 bt146 b38 kb146 (2 : Int32) (0 : Int32) (1 : Int32) (0 : Int32) (0 : Int32) T198.heap n0 z204 Eo198 Ft198 Fs198 Ff198 Fi198 Vt198 ne_b139_bt146 g_b139 g_bt146) hZ (hw _ (List.mem_of_getElem? (i := 31) rfl)) (hw _ (List.mem_of_getElem? (i := 7) rfl)) (by decide) (by decide)) q206a q206c (g := (mkF m 328 #[.val (.int im), .val (.int ib), .val (.int i0), .val (.int i1), .val (.int i2), .val (.long ga), .second, .val (.int (3 : Int32)), .val (.int (1 : Int32)), .val (.int (1 : Int32)), .val (.ref b1), .val (.long (ib.toInt64)), .second, .val (.long f0), .second, .val (.long s1), .second, .val (.long f1), .second, .val (.long s2), .second, .val (.long f2), .second, .val (.ref b34), .val (.ref b38), .val (.ref b43), .val (.ref b139), .unset, .unset] [(.int (2 : Int32)), (.int (2 : Int32)), (.ref b139)])) rfl (by rw [hml]; rfl) (Steps.refl _) (argsL := [(.int (2 : Int32)), (.int (2 : Int32))]) (rest := []) (lenOf pd_3 rfl) rfl (by show 2 * 0 + _ ≤ _; exact Nat.le_of_eq rfl) (hb hby at_328) (fun _ _ => ⟨rfl, rfl, (by decide : 6 + 0 ≤ _), (by decide : 21 + 0 ≤ _)⟩)
    dsimp only [Pt.U, Pt.locs, Pt.cells, Pt.slots] at X206 l206 y206 z206 st206 hQ206
    replace X206 := own_cast X206 l206 y206 z206
    obtain ⟨hv206, N206q, K206, Eo206, Ft206, Fs206, Ff206, Fi206, Vt206⟩ := hQ206
    rw [hv206] at st206
    have N206 := Fr.app N198 N206q
    have f207 := f199.keep K206 (ninS ne_b1_b139 (ninS ne_b1_bt146 nin0))
    have f208 := f200.keep K206 (ninS ne_b34_b139 (ninS ne_b34_bt146 nin0))
    have f209 := f201.keep K206 (ninS ne_b38_b139 (ninS ne_b38_bt146 nin0))
    have f210 := f202.keep K206 (ninS ne_b43_b139 (ninS ne_b43_bt146 nin0))
    have f211 := Eo198.keep K206
    have z212 := Nat.le_trans z204 K206.1
    have kp213 := Keep.trans kp205 K206 (allS (Or.inr sz_b139) (allS (Or.inr sz_bt146) all0))
    obtain ⟨clq214, Arq214, cq214, Sq214, nq214, Hq214, Gq214⟩ := id f210
    have hiq214 : ¬ ((0 : Int32) < 0 ∨ clq214.slots.size ≤ ((0 : Int32)).toNatClampNeg) := inb_of Sq214 ⟨by decide, by decide⟩
    have haq214 : clq214.slots[((0 : Int32)).toNatClampNeg]? = some (.long f0) := Hq214.at hiq214 rfl
    obtain ⟨clq215, Arq215, cq215, Sq215, nq215, Hq215, Gq215⟩ := id f210
    have hiq215 : ¬ ((1 : Int32) < 0 ∨ clq215.slots.size ≤ ((1 : Int32)).toNatClampNeg) := inb_of Sq215 ⟨by decide, by decide⟩
    have haq215 : clq215.slots[((1 : Int32)).toNatClampNeg]? = some (.long f1) := Hq215.at hiq215 rfl
    obtain ⟨_, _, ⟨T216, L216, k216, n216⟩, -, X216, ⟨Lc216, hQ216, l216, y216, z216⟩, st216⟩ := Jvm.LawKit.callS X206 hx (y := (⟨"java/lang/Math", "max", "(JJ)J"⟩ : MethodName)) hown (mvT hZ (hw _ (List.mem_of_getElem? (i := 38) rfl))) (mvT hZ (hw _ (List.mem_of_getElem? (i := 39) rfl))) (mvT hZ (hw _ (List.mem_of_getElem? (i := 40) rfl))) (mvT hZ (hw _ (List.mem_of_getElem? (i := 41) rfl))) (by decide) (backOf (W := 0) (rmX l Z a0 hw [] f0 f1 T206.heap n0 z212) hZ (hw _ (List.mem_of_getElem? (i := 41) rfl)) (hw _ (List.mem_of_getElem? (i := 40) rfl)) (by decide) (by decide)) (g := (mkF m 358 #[.val (.int im), .val (.int ib), .val (.int i0), .val (.int i1), .val (.int i2), .val (.long ga), .second, .val (.int (3 : Int32)), .val (.int (1 : Int32)), .val (.int (1 : Int32)), .val (.ref b1), .val (.long (ib.toInt64)), .second, .val (.long f0), .second, .val (.long s1), .second, .val (.long f1), .second, .val (.long s2), .second, .val (.long f2), .second, .val (.ref b34), .val (.ref b38), .val (.ref b43), .val (.ref b139), .val (.long f0), .second] [(.long f1), (.long f0)])) rfl (by rw [hml]; rfl) (argsL := [(.long f0), (.long f1)]) (rest := []) (lenOf pd_4 rfl) rfl (by show 2 * 0 + _ ≤ _; exact Nat.le_of_eq rfl) (hb hby at_358) (fun _ _ => ⟨rfl, rfl, (by decide : 6 + 0 ≤ _), (by decide : 21 + 0 ≤ _)⟩)
    dsimp only [Pt.U, Pt.locs, Pt.cells, Pt.slots] at X216 l216 y216 z216 st216 hQ216
    replace X216 := own_cast X216 l216 y216 z216
    obtain ⟨hv216, N216q, e216⟩ := hQ216
    rw [hv216] at st216
    have N216 := Fr.app N206 N216q
    obtain ⟨clq217, Arq217, cq217, Sq217, nq217, Hq217, Gq217⟩ := id f210
    have hiq217 : ¬ ((2 : Int32) < 0 ∨ clq217.slots.size ≤ ((2 : Int32)).toNatClampNeg) := inb_of Sq217 ⟨by decide, by decide⟩
    have haq217 : clq217.slots[((2 : Int32)).toNatClampNeg]? = some (.long f2) := Hq217.at hiq217 rfl
    obtain ⟨_, _, ⟨T218, L218, k218, n218⟩, -, X218, ⟨Lc218, hQ218, l218, y218, z218⟩, st218⟩ := Jvm.LawKit.callS X216 hx (y := (⟨"java/lang/Math", "max", "(JJ)J"⟩ : MethodName)) hown (mvT hZ (hw _ (List.mem_of_getElem? (i := 38) rfl))) (mvT hZ (hw _ (List.mem_of_getElem? (i := 39) rfl))) (mvT hZ (hw _ (List.mem_of_getElem? (i := 40) rfl))) (mvT hZ (hw _ (List.mem_of_getElem? (i := 41) rfl))) (by decide) (backOf (W := 0) (rmX l Z a0 hw [] (own_max f0 f1) f2 T206.heap n0 z212) hZ (hw _ (List.mem_of_getElem? (i := 41) rfl)) (hw _ (List.mem_of_getElem? (i := 40) rfl)) (by decide) (by decide)) (g := (mkF m 375 #[.val (.int im), .val (.int ib), .val (.int i0), .val (.int i1), .val (.int i2), .val (.long ga), .second, .val (.int (3 : Int32)), .val (.int (1 : Int32)), .val (.int (1 : Int32)), .val (.ref b1), .val (.long (ib.toInt64)), .second, .val (.long f0), .second, .val (.long s1), .second, .val (.long f1), .second, .val (.long s2), .second, .val (.long f2), .second, .val (.ref b34), .val (.ref b38), .val (.ref b43), .val (.ref b139), .val (.long (own_max f0 f1)), .second] [(.long f2), (.long (own_max f0 f1))])) rfl (by rw [hml]; rfl) (argsL := [(.long (own_max f0 f1)), (.long f2)]) (rest := []) (lenOf pd_4 rfl) rfl (by show 2 * 0 + _ ≤ _; exact Nat.le_of_eq rfl) (hb hby at_375) (fun _ _ => ⟨rfl, e216, (by decide : 6 + 0 ≤ _), (by decide : 21 + 0 ≤ _)⟩)
    dsimp only [Pt.U, Pt.locs, Pt.cells, Pt.slots] at X218 l218 y218 z218 st218 hQ218
    replace X218 := own_cast X218 l218 y218 z218
    obtain ⟨hv218, N218q, e218⟩ := hQ218
    rw [hv218] at st218
    have N218 := Fr.app N216 N218q
    obtain ⟨cq219, kq219, q219a, q219b, q219c⟩ := isOf hZ e218 Eo206
    obtain ⟨_, _, ⟨T219, L219, k219, n219⟩, -, X219, ⟨Lc219, hQ219, l219, y219, z219⟩, st219⟩ := X218.virtualBack hx (y := (⟨"com/example/makespun/makespun/simulate/Timeline", "freeAt", "()D"⟩ : MethodName)) (z := (⟨"com/example/makespun/makespun/simulate/Timeline", "freeAt", "()D"⟩ : MethodName)) hown (mvT hZ (hw _ (List.mem_of_getElem? (i := 20) rfl))) (mvT hZ (hw _ (List.mem_of_getElem? (i := 21) rfl))) (notFace_of_selects (args := #[]) (mvT hZ (hw _ (List.mem_of_getElem? (i := 23) rfl)))) (mvT hZ (hw _ (List.mem_of_getElem? (i := 23) rfl))) (mvT hZ (hw _ (List.mem_of_getElem? (i := 22) rfl))) (by decide) (backOf (W := 0) (rmF32 l Z a0 hw [] b139 bt146 b38 kb146 k38 (0 : Int32) (1 : Int32) (0 : Int32) (FP.l2d f0) (FP.l2d f1) (FP.l2d f2) T206.heap n0 z212 Ft206 Fs206 Ff206 Vt206 f209) hZ (hw _ (List.mem_of_getElem? (i := 24) rfl)) (hw _ (List.mem_of_getElem? (i := 7) rfl)) (by decide) (by decide)) q219a q219c (g := (mkF m 382 #[.val (.int im), .val (.int ib), .val (.int i0), .val (.int i1), .val (.int i2), .val (.long ga), .second, .val (.int (3 : Int32)), .val (.int (1 : Int32)), .val (.int (1 : Int32)), .val (.ref b1), .val (.long (ib.toInt64)), .second, .val (.long f0), .second, .val (.long s1), .second, .val (.long f1), .second, .val (.long s2), .second, .val (.long f2), .second, .val (.ref b34), .val (.ref b38), .val (.ref b43), .val (.ref b139), .val (.long (own_max (own_max f0 f1) f2)), .second] [(.ref b139)])) rfl (by rw [hml]; rfl) (Steps.refl _) (argsL := []) (rest := []) (lenOf pd_2 rfl) rfl (by show 2 * 0 + _ ≤ _; exact Nat.le_of_eq rfl) (hb hby at_382) (fun _ _ => ⟨rfl, e218, (by decide : 6 + 0 ≤ _), (by decide : 21 + 0 ≤ _)⟩)
    dsimp only [Pt.U, Pt.locs, Pt.cells, Pt.slots] at X219 l219 y219 z219 st219 hQ219
    replace X219 := own_cast X219 l219 y219 z219
    obtain ⟨hv219, N219q, e219⟩ := hQ219
    rw [hv219] at st219
    have N219 := Fr.app N218 N219q
    obtain ⟨fs, hr, hrun, hended, hW, hsame⟩ := X219.leave (v := some (.int (1 : Int32))) (fun h => by rw [Bd.returns] at h; cases h)
    refine ⟨_, _, k189 _ ?_, hrun, hended, _, _, rfl, ?_, ⟨_, rfl⟩, hW, hsame.mono (by decide) (by decide)⟩
    · refine XS.iload X146.here hx rfl (hb hby at_274) rfl ?_
      refine XS.iconst X146.here hx rfl (hb hby at_276) ?_
      show Steps p.tables e below (T146.setTop (mkF m 277 #[.val (.int im), .val (.int ib), .val (.int i0), .val (.int i1), .val (.int i2), .val (.long ga), .second, .val (.int (3 : Int32)), .val (.int (1 : Int32)), .val (.int (1 : Int32)), .val (.ref b1), .val (.long (ib.toInt64)), .second, .val (.long f0), .second, .val (.long s1), .second, .val (.long f1), .second, .val (.long s2), .second, .val (.long f2), .second, .val (.ref b34), .val (.ref b38), .val (.ref b43), .val (.ref b139), .unset, .unset] [(.int (1 : Int32)), (.int (3 : Int32))])) _
      refine XS.icmpNo X146.here hx rfl (hb hby at_277) rfl (flt (by decide : ¬ ((3 : Int32) < (1 : Int32)))).1 ?_
      refine XS.aload X146.here hx rfl (hb hby at_280) rfl rfl ?_
      show Steps p.tables e below (T146.setTop (mkF m 282 #[.val (.int im), .val (.int ib), .val (.int i0), .val (.int i1), .val (.int i2), .val (.long ga), .second, .val (.int (3 : Int32)), .val (.int (1 : Int32)), .val (.int (1 : Int32)), .val (.ref b1), .val (.long (ib.toInt64)), .second, .val (.long f0), .second, .val (.long s1), .second, .val (.long f1), .second, .val (.long s2), .second, .val (.long f2), .second, .val (.ref b34), .val (.ref b38), .val (.ref b43), .val (.ref b139), .unset, .unset] [(.ref b139)])) _
      refine XS.iconst X146.here hx rfl (hb hby at_282) ?_
      refine XS.iconst X146.here hx rfl (hb hby at_283) ?_
      refine st190.trans ?_
      refine XS.iload X190.here hx rfl (hb hby at_287) rfl ?_
      refine XS.iconst X190.here hx rfl (hb hby at_289) ?_
      show Steps p.tables e below (T190.setTop (mkF m 290 #[.val (.int im), .val (.int ib), .val (.int i0), .val (.int i1), .val (.int i2), .val (.long ga), .second, .val (.int (3 : Int32)), .val (.int (1 : Int32)), .val (.int (1 : Int32)), .val (.ref b1), .val (.long (ib.toInt64)), .second, .val (.long f0), .second, .val (.long s1), .second, .val (.long f1), .second, .val (.long s2), .second, .val (.long f2), .second, .val (.ref b34), .val (.ref b38), .val (.ref b43), .val (.ref b139), .unset, .unset] [(.int (2 : Int32)), (.int (3 : Int32))])) _
      refine XS.icmpNo X190.here hx rfl (hb hby at_290) rfl (flt (by decide : ¬ ((3 : Int32) < (2 : Int32)))).1 ?_
      refine XS.aload X190.here hx rfl (hb hby at_293) rfl rfl ?_
      show Steps p.tables e below (T190.setTop (mkF m 295 #[.val (.int im), .val (.int ib), .val (.int i0), .val (.int i1), .val (.int i2), .val (.long ga), .second, .val (.int (3 : Int32)), .val (.int (1 : Int32)), .val (.int (1 : Int32)), .val (.ref b1), .val (.long (ib.toInt64)), .second, .val (.long f0), .second, .val (.long s1), .second, .val (.long f1), .second, .val (.long s2), .second, .val (.long f2), .second, .val (.ref b34), .val (.ref b38), .val (.ref b43), .val (.ref b139), .unset, .unset] [(.ref b139)])) _
      refine XS.iload X190.here hx rfl (hb hby at_295) rfl ?_
      show Steps p.tables e below (T190.setTop (mkF m 297 #[.val (.int im), .val (.int ib), .val (.int i0), .val (.int i1), .val (.int i2), .val (.long ga), .second, .val (.int (3 : Int32)), .val (.int (1 : Int32)), .val (.int (1 : Int32)), .val (.ref b1), .val (.long (ib.toInt64)), .second, .val (.long f0), .second, .val (.long s1), .second, .val (.long f1), .second, .val (.long s2), .second, .val (.long f2), .second, .val (.ref b34), .val (.ref b38), .val (.ref b43), .val (.ref b139), .unset, .unset] [(.int (1 : Int32)), (.ref b139)])) _
      refine XS.ifNo X190.here hx rfl (hb hby at_297) rfl ((if0 _ _).trans (feq (by decide : ¬ ((1 : Int32) = (0 : Int32)))).1) ?_
      refine XS.iconst X190.here hx rfl (hb hby at_300) ?_
      refine XS.goto X190.here hx rfl (pc0 := 301) (pc' := 305) rfl (hb hby at_301) (by decide) (by decide) ?_
      refine XS.iconst X190.here hx rfl (hb hby at_305) ?_
      refine st198.trans ?_
      refine XS.iload X198.here hx rfl (hb hby at_309) rfl ?_
      show Steps p.tables e below (T198.setTop (mkF m 311 #[.val (.int im), .val (.int ib), .val (.int i0), .val (.int i1), .val (.int i2), .val (.long ga), .second, .val (.int (3 : Int32)), .val (.int (1 : Int32)), .val (.int (1 : Int32)), .val (.ref b1), .val (.long (ib.toInt64)), .second, .val (.long f0), .second, .val (.long s1), .second, .val (.long f1), .second, .val (.long s2), .second, .val (.long f2), .second, .val (.ref b34), .val (.ref b38), .val (.ref b43), .val (.ref b139), .unset, .unset] [(.int (3 : Int32))])) _
      refine XS.iconst X198.here hx rfl (hb hby at_311) ?_
      show Steps p.tables e below (T198.setTop (mkF m 312 #[.val (.int im), .val (.int ib), .val (.int i0), .val (.int i1), .val (.int i2), .val (.long ga), .second, .val (.int (3 : Int32)), .val (.int (1 : Int32)), .val (.int (1 : Int32)), .val (.ref b1), .val (.long (ib.toInt64)), .second, .val (.long f0), .second, .val (.long s1), .second, .val (.long f1), .second, .val (.long s2), .second, .val (.long f2), .second, .val (.ref b34), .val (.ref b38), .val (.ref b43), .val (.ref b139), .unset, .unset] [(.int (3 : Int32)), (.int (3 : Int32))])) _
      refine XS.icmpNo X198.here hx rfl (hb hby at_312) rfl (teq (by decide : ((3 : Int32) = (3 : Int32)))).2 ?_
      refine XS.aload X198.here hx rfl (hb hby at_315) rfl rfl ?_
      refine XS.iload X198.here hx rfl (hb hby at_317) rfl ?_
      show Steps p.tables e below (T198.setTop (mkF m 319 #[.val (.int im), .val (.int ib), .val (.int i0), .val (.int i1), .val (.int i2), .val (.long ga), .second, .val (.int (3 : Int32)), .val (.int (1 : Int32)), .val (.int (1 : Int32)), .val (.ref b1), .val (.long (ib.toInt64)), .second, .val (.long f0), .second, .val (.long s1), .second, .val (.long f1), .second, .val (.long s2), .second, .val (.long f2), .second, .val (.ref b34), .val (.ref b38), .val (.ref b43), .val (.ref b139), .unset, .unset] [(.int (1 : Int32)), (.ref b139)])) _
      refine XS.ifNo X198.here hx rfl (hb hby at_319) rfl ((if0 _ _).trans (feq (by decide : ¬ ((1 : Int32) = (0 : Int32)))).1) ?_
      refine XS.iconst X198.here hx rfl (hb hby at_322) ?_
      refine XS.goto X198.here hx rfl (pc0 := 323) (pc' := 327) rfl (hb hby at_323) (by decide) (by decide) ?_
      refine XS.iconst X198.here hx rfl (hb hby at_327) ?_
      show Steps p.tables e below (T198.setTop (mkF m 328 #[.val (.int im), .val (.int ib), .val (.int i0), .val (.int i1), .val (.int i2), .val (.long ga), .second, .val (.int (3 : Int32)), .val (.int (1 : Int32)), .val (.int (1 : Int32)), .val (.ref b1), .val (.long (ib.toInt64)), .second, .val (.long f0), .second, .val (.long s1), .second, .val (.long f1), .second, .val (.long s2), .second, .val (.long f2), .second, .val (.ref b34), .val (.ref b38), .val (.ref b43), .val (.ref b139), .unset, .unset] [(.int (2 : Int32)), (.int (2 : Int32)), (.ref b139)])) _
      refine st206.trans ?_
      refine XS.lconst X206.here hx rfl (hb hby at_331) ?_
      refine XS.lstore X206.here hx rfl (hb hby at_332) rfl (l' := #[.val (.int im), .val (.int ib), .val (.int i0), .val (.int i1), .val (.int i2), .val (.long ga), .second, .val (.int (3 : Int32)), .val (.int (1 : Int32)), .val (.int (1 : Int32)), .val (.ref b1), .val (.long (ib.toInt64)), .second, .val (.long f0), .second, .val (.long s1), .second, .val (.long f1), .second, .val (.long s2), .second, .val (.long f2), .second, .val (.ref b34), .val (.ref b38), .val (.ref b43), .val (.ref b139), .val (.long (0 : Int64)), .second]) rfl ?_
      refine XS.iload X206.here hx rfl (hb hby at_334) rfl ?_
      refine XS.iconst X206.here hx rfl (hb hby at_336) ?_
      show Steps p.tables e below (T206.setTop (mkF m 337 #[.val (.int im), .val (.int ib), .val (.int i0), .val (.int i1), .val (.int i2), .val (.long ga), .second, .val (.int (3 : Int32)), .val (.int (1 : Int32)), .val (.int (1 : Int32)), .val (.ref b1), .val (.long (ib.toInt64)), .second, .val (.long f0), .second, .val (.long s1), .second, .val (.long f1), .second, .val (.long s2), .second, .val (.long f2), .second, .val (.ref b34), .val (.ref b38), .val (.ref b43), .val (.ref b139), .val (.long (0 : Int64)), .second] [(.int (1 : Int32)), (.int (3 : Int32))])) _
      refine XS.icmpNo X206.here hx rfl (hb hby at_337) rfl (flt (by decide : ¬ ((3 : Int32) < (1 : Int32)))).1 ?_
      refine XS.aload X206.here hx rfl (hb hby at_340) rfl rfl ?_
      show Steps p.tables e below (T206.setTop (mkF m 342 #[.val (.int im), .val (.int ib), .val (.int i0), .val (.int i1), .val (.int i2), .val (.long ga), .second, .val (.int (3 : Int32)), .val (.int (1 : Int32)), .val (.int (1 : Int32)), .val (.ref b1), .val (.long (ib.toInt64)), .second, .val (.long f0), .second, .val (.long s1), .second, .val (.long f1), .second, .val (.long s2), .second, .val (.long f2), .second, .val (.ref b34), .val (.ref b38), .val (.ref b43), .val (.ref b139), .val (.long (0 : Int64)), .second] [(.ref b43)])) _
      refine XS.iconst X206.here hx rfl (hb hby at_342) ?_
      refine X206.laload hx (j := (0 : Int32)) (v := (.long f0)) (by exact Arq214.1) (State.isArrayOf_alike hZ.alike Arq214.2.1) Arq214.2.2 hiq214 haq214 (g := (mkF m 343 #[.val (.int im), .val (.int ib), .val (.int i0), .val (.int i1), .val (.int i2), .val (.long ga), .second, .val (.int (3 : Int32)), .val (.int (1 : Int32)), .val (.int (1 : Int32)), .val (.ref b1), .val (.long (ib.toInt64)), .second, .val (.long f0), .second, .val (.long s1), .second, .val (.long f1), .second, .val (.long s2), .second, .val (.long f2), .second, .val (.ref b34), .val (.ref b38), .val (.ref b43), .val (.ref b139), .val (.long (0 : Int64)), .second] [(.int (0 : Int32)), (.ref b43)])) rfl rfl (hb hby at_343) _ ?_
      refine XS.lstore X206.here hx rfl (hb hby at_344) rfl (l' := #[.val (.int im), .val (.int ib), .val (.int i0), .val (.int i1), .val (.int i2), .val (.long ga), .second, .val (.int (3 : Int32)), .val (.int (1 : Int32)), .val (.int (1 : Int32)), .val (.ref b1), .val (.long (ib.toInt64)), .second, .val (.long f0), .second, .val (.long s1), .second, .val (.long f1), .second, .val (.long s2), .second, .val (.long f2), .second, .val (.ref b34), .val (.ref b38), .val (.ref b43), .val (.ref b139), .val (.long f0), .second]) rfl ?_
      refine XS.iload X206.here hx rfl (hb hby at_346) rfl ?_
      refine XS.iconst X206.here hx rfl (hb hby at_348) ?_
      show Steps p.tables e below (T206.setTop (mkF m 349 #[.val (.int im), .val (.int ib), .val (.int i0), .val (.int i1), .val (.int i2), .val (.long ga), .second, .val (.int (3 : Int32)), .val (.int (1 : Int32)), .val (.int (1 : Int32)), .val (.ref b1), .val (.long (ib.toInt64)), .second, .val (.long f0), .second, .val (.long s1), .second, .val (.long f1), .second, .val (.long s2), .second, .val (.long f2), .second, .val (.ref b34), .val (.ref b38), .val (.ref b43), .val (.ref b139), .val (.long f0), .second] [(.int (2 : Int32)), (.int (3 : Int32))])) _
      refine XS.icmpNo X206.here hx rfl (hb hby at_349) rfl (flt (by decide : ¬ ((3 : Int32) < (2 : Int32)))).1 ?_
      refine XS.lload X206.here hx rfl (hb hby at_352) rfl ?_
      show Steps p.tables e below (T206.setTop (mkF m 354 #[.val (.int im), .val (.int ib), .val (.int i0), .val (.int i1), .val (.int i2), .val (.long ga), .second, .val (.int (3 : Int32)), .val (.int (1 : Int32)), .val (.int (1 : Int32)), .val (.ref b1), .val (.long (ib.toInt64)), .second, .val (.long f0), .second, .val (.long s1), .second, .val (.long f1), .second, .val (.long s2), .second, .val (.long f2), .second, .val (.ref b34), .val (.ref b38), .val (.ref b43), .val (.ref b139), .val (.long f0), .second] [(.long f0)])) _
      refine XS.aload X206.here hx rfl (hb hby at_354) rfl rfl ?_
      refine XS.iconst X206.here hx rfl (hb hby at_356) ?_
      refine X206.laload hx (j := (1 : Int32)) (v := (.long f1)) (by exact Arq215.1) (State.isArrayOf_alike hZ.alike Arq215.2.1) Arq215.2.2 hiq215 haq215 (g := (mkF m 357 #[.val (.int im), .val (.int ib), .val (.int i0), .val (.int i1), .val (.int i2), .val (.long ga), .second, .val (.int (3 : Int32)), .val (.int (1 : Int32)), .val (.int (1 : Int32)), .val (.ref b1), .val (.long (ib.toInt64)), .second, .val (.long f0), .second, .val (.long s1), .second, .val (.long f1), .second, .val (.long s2), .second, .val (.long f2), .second, .val (.ref b34), .val (.ref b38), .val (.ref b43), .val (.ref b139), .val (.long f0), .second] [(.int (1 : Int32)), (.ref b43), (.long f0)])) rfl rfl (hb hby at_357) _ ?_
      refine st216 _ ?_
      refine XS.lstore X216.here hx rfl (hb hby at_361) rfl (l' := #[.val (.int im), .val (.int ib), .val (.int i0), .val (.int i1), .val (.int i2), .val (.long ga), .second, .val (.int (3 : Int32)), .val (.int (1 : Int32)), .val (.int (1 : Int32)), .val (.ref b1), .val (.long (ib.toInt64)), .second, .val (.long f0), .second, .val (.long s1), .second, .val (.long f1), .second, .val (.long s2), .second, .val (.long f2), .second, .val (.ref b34), .val (.ref b38), .val (.ref b43), .val (.ref b139), .val (.long (own_max f0 f1)), .second]) rfl ?_
      refine XS.iload X216.here hx rfl (hb hby at_363) rfl ?_
      show Steps p.tables e below (T216.setTop (mkF m 365 #[.val (.int im), .val (.int ib), .val (.int i0), .val (.int i1), .val (.int i2), .val (.long ga), .second, .val (.int (3 : Int32)), .val (.int (1 : Int32)), .val (.int (1 : Int32)), .val (.ref b1), .val (.long (ib.toInt64)), .second, .val (.long f0), .second, .val (.long s1), .second, .val (.long f1), .second, .val (.long s2), .second, .val (.long f2), .second, .val (.ref b34), .val (.ref b38), .val (.ref b43), .val (.ref b139), .val (.long (own_max f0 f1)), .second] [(.int (3 : Int32))])) _
      refine XS.iconst X216.here hx rfl (hb hby at_365) ?_
      show Steps p.tables e below (T216.setTop (mkF m 366 #[.val (.int im), .val (.int ib), .val (.int i0), .val (.int i1), .val (.int i2), .val (.long ga), .second, .val (.int (3 : Int32)), .val (.int (1 : Int32)), .val (.int (1 : Int32)), .val (.ref b1), .val (.long (ib.toInt64)), .second, .val (.long f0), .second, .val (.long s1), .second, .val (.long f1), .second, .val (.long s2), .second, .val (.long f2), .second, .val (.ref b34), .val (.ref b38), .val (.ref b43), .val (.ref b139), .val (.long (own_max f0 f1)), .second] [(.int (3 : Int32)), (.int (3 : Int32))])) _
      refine XS.icmpNo X216.here hx rfl (hb hby at_366) rfl (teq (by decide : ((3 : Int32) = (3 : Int32)))).2 ?_
      refine XS.lload X216.here hx rfl (hb hby at_369) rfl ?_
      refine XS.aload X216.here hx rfl (hb hby at_371) rfl rfl ?_
      refine XS.iconst X216.here hx rfl (hb hby at_373) ?_
      refine X216.laload hx (j := (2 : Int32)) (v := (.long f2)) (by rw [e216]; exact Arq217.1) (State.isArrayOf_alike hZ.alike Arq217.2.1) Arq217.2.2 hiq217 haq217 (g := (mkF m 374 #[.val (.int im), .val (.int ib), .val (.int i0), .val (.int i1), .val (.int i2), .val (.long ga), .second, .val (.int (3 : Int32)), .val (.int (1 : Int32)), .val (.int (1 : Int32)), .val (.ref b1), .val (.long (ib.toInt64)), .second, .val (.long f0), .second, .val (.long s1), .second, .val (.long f1), .second, .val (.long s2), .second, .val (.long f2), .second, .val (.ref b34), .val (.ref b38), .val (.ref b43), .val (.ref b139), .val (.long (own_max f0 f1)), .second] [(.int (2 : Int32)), (.ref b43), (.long (own_max f0 f1))])) rfl rfl (hb hby at_374) _ ?_
      refine st218 _ ?_
      show Steps p.tables e below (T218.setTop (mkF m 378 #[.val (.int im), .val (.int ib), .val (.int i0), .val (.int i1), .val (.int i2), .val (.long ga), .second, .val (.int (3 : Int32)), .val (.int (1 : Int32)), .val (.int (1 : Int32)), .val (.ref b1), .val (.long (ib.toInt64)), .second, .val (.long f0), .second, .val (.long s1), .second, .val (.long f1), .second, .val (.long s2), .second, .val (.long f2), .second, .val (.ref b34), .val (.ref b38), .val (.ref b43), .val (.ref b139), .val (.long (own_max f0 f1)), .second] [(.long (own_max (own_max f0 f1) f2))])) _
      refine XS.lstore X218.here hx rfl (hb hby at_378) rfl (l' := #[.val (.int im), .val (.int ib), .val (.int i0), .val (.int i1), .val (.int i2), .val (.long ga), .second, .val (.int (3 : Int32)), .val (.int (1 : Int32)), .val (.int (1 : Int32)), .val (.ref b1), .val (.long (ib.toInt64)), .second, .val (.long f0), .second, .val (.long s1), .second, .val (.long f1), .second, .val (.long s2), .second, .val (.long f2), .second, .val (.ref b34), .val (.ref b38), .val (.ref b43), .val (.ref b139), .val (.long (own_max (own_max f0 f1) f2)), .second]) rfl ?_
      refine XS.aload X218.here hx rfl (hb hby at_380) rfl rfl ?_
      refine st219.trans ?_
      refine XS.lload X219.here hx rfl (hb hby at_385) rfl ?_
      show Steps p.tables e below (T219.setTop (mkF m 387 #[.val (.int im), .val (.int ib), .val (.int i0), .val (.int i1), .val (.int i2), .val (.long ga), .second, .val (.int (3 : Int32)), .val (.int (1 : Int32)), .val (.int (1 : Int32)), .val (.ref b1), .val (.long (ib.toInt64)), .second, .val (.long f0), .second, .val (.long s1), .second, .val (.long f1), .second, .val (.long s2), .second, .val (.long f2), .second, .val (.ref b34), .val (.ref b38), .val (.ref b43), .val (.ref b139), .val (.long (own_max (own_max f0 f1) f2)), .second] [(.long (own_max (own_max f0 f1) f2)), (.double (FP.l2d f2))])) _
      refine XS.l2dS X219.here hx rfl (hb hby at_387) rfl rfl ?_
      show Steps p.tables e below (T219.setTop (mkF m 388 #[.val (.int im), .val (.int ib), .val (.int i0), .val (.int i1), .val (.int i2), .val (.long ga), .second, .val (.int (3 : Int32)), .val (.int (1 : Int32)), .val (.int (1 : Int32)), .val (.ref b1), .val (.long (ib.toInt64)), .second, .val (.long f0), .second, .val (.long s1), .second, .val (.long f1), .second, .val (.long s2), .second, .val (.long f2), .second, .val (.ref b34), .val (.ref b38), .val (.ref b43), .val (.ref b139), .val (.long (own_max (own_max f0 f1) f2)), .second] [(.double (FP.l2d (own_max (own_max f0 f1) f2))), (.double (FP.l2d f2))])) _
      refine XS.dcmpS X219.here hx rfl (hb hby at_388) rfl (v := (0 : Int32)) (own_cmp (show f2 = (own_max (own_max f0 f1) f2) from ((congrArg (fun z => own_max z f2) ((congrArg (fun z => own_max z f1) rfl).trans (own_max_r ho.1))).trans (own_max_r ho.2.1)).symm)) ?_
      show Steps p.tables e below (T219.setTop (mkF m 389 #[.val (.int im), .val (.int ib), .val (.int i0), .val (.int i1), .val (.int i2), .val (.long ga), .second, .val (.int (3 : Int32)), .val (.int (1 : Int32)), .val (.int (1 : Int32)), .val (.ref b1), .val (.long (ib.toInt64)), .second, .val (.long f0), .second, .val (.long s1), .second, .val (.long f1), .second, .val (.long s2), .second, .val (.long f2), .second, .val (.ref b34), .val (.ref b38), .val (.ref b43), .val (.ref b139), .val (.long (own_max (own_max f0 f1) f2)), .second] [(.int (0 : Int32))])) _
      refine XS.ifNo X219.here hx rfl (hb hby at_389) rfl ((if0 _ _).trans (teq (by decide : ((0 : Int32) = (0 : Int32)))).2) ?_
      refine XS.iconst X219.here hx rfl (hb hby at_392) ?_
      show Steps p.tables e below (T219.setTop (mkF m 393 #[.val (.int im), .val (.int ib), .val (.int i0), .val (.int i1), .val (.int i2), .val (.long ga), .second, .val (.int (3 : Int32)), .val (.int (1 : Int32)), .val (.int (1 : Int32)), .val (.ref b1), .val (.long (ib.toInt64)), .second, .val (.long f0), .second, .val (.long s1), .second, .val (.long f1), .second, .val (.long s2), .second, .val (.long f2), .second, .val (.ref b34), .val (.ref b38), .val (.ref b43), .val (.ref b139), .val (.long (own_max (own_max f0 f1) f2)), .second] [(.int (1 : Int32))])) _
      refine XS.goto X219.here hx rfl (pc0 := 393) (pc' := 397) rfl (hb hby at_393) (by decide) (by decide) ?_
      show Steps p.tables e below (T219.setTop (mkF m 397 #[.val (.int im), .val (.int ib), .val (.int i0), .val (.int i1), .val (.int i2), .val (.long ga), .second, .val (.int (3 : Int32)), .val (.int (1 : Int32)), .val (.int (1 : Int32)), .val (.ref b1), .val (.long (ib.toInt64)), .second, .val (.long f0), .second, .val (.long s1), .second, .val (.long f1), .second, .val (.long s2), .second, .val (.long f2), .second, .val (.ref b34), .val (.ref b38), .val (.ref b43), .val (.ref b139), .val (.long (own_max (own_max f0 f1) f2)), .second] [(.int (1 : Int32))])) _
      exact retN X219 hx (t := .boolean) Bd.returns (by simp) (hb hby at_397) hr
    · show own_Q0 Z im ib i0 i1 i2 ga h0 n0 _ T219.heap _
      rw [e219]
      exact ⟨rfl, N219⟩
set_option maxRecDepth 65536 in
set_option maxHeartbeats 40000000 in
theorem rm0_10 (l : Launch) (Z : State) (a0 : Array Value) (hw : ∀ d ∈ tables_1, d.before a0 Z = true) (ws : List Jvm.Cond) (im ib i0 i1 i2 : Int32) (ga : Int64) (h0 : Heap) (n0 : Nat) (Z0 : n0 ≤ h0.size) (he1 : ¬ (im &&& (4 : Int32)) = (0 : Int32)) (he2 : (im &&& (8 : Int32)) = (0 : Int32)) :
    MetFree l x (head1 (Jvm.Cond.code x code maxLocals ret :: ws) room_1) (fun a U => a = #[(.int im), (.int ib), (.int i0), (.int i1), (.int i2), (.long ga)] ∧ Z.Warmed39 U.vm ∧ U.heap = h0) (fun _ _ _ _ _ => True) (fun _ U o U' => ∃ v L, o = .returned v ∧ own_Q0 Z im ib i0 i1 i2 ga h0 n0 v U'.heap L ∧ FrameEnd U o U' L room_1.cells room_1.slots) := by
  refine MetFree.of_bodySF (plainFor_of_name pn_0) hisR ?_
  intro p e s m args below meth c s₁ Bd hml0 hP hK
  obtain ⟨rfl, hZ, hh⟩ := hP
  have hx := Bd.exec
  have hby := Bd.bytes
  have hml : c.maxLocals = 29 := hml0
  have hown : s.vm.findClass "com/example/makespun/makespun/simulate/TimelineFreeAtPinLaw" = some m.cls := findClass_of_methodNamed Bd.named
  have hnm := (name_of_methodNamed Bd.named Bd.method).1
  have X0 : Stand p l e room_1 s m #[(.int im), (.int ib), (.int i0), (.int i1), (.int i2), (.long ga)] below meth c s₁ [] 0 0 := Stand.of_body Bd
  have e0 : s₁.heap = h0 := by rw [← hh, Bd.state]; rfl
  have N0 := Fr.nil n0
  have pre0 : ∀ tq, Steps p.tables e below (s₁.setTop (mkF m 0 #[.val (.int im), .val (.int ib), .val (.int i0), .val (.int i1), .val (.int i2), .val (.long ga), .second, .unset, .unset, .unset, .unset, .unset, .unset, .unset, .unset, .unset, .unset, .unset, .unset, .unset, .unset, .unset, .unset, .unset, .unset, .unset, .unset, .unset, .unset] [])) tq → Steps p.tables e below (s₁.setTop (entryFrame m #[(.int im), (.int ib), (.int i0), (.int i1), (.int i2), (.long ga)] maxLocals)) tq := fun tq k => castTop (ef_0 m im ib i0 i1 i2 ga) k
  obtain ⟨T1, h1, k1, X1, e1, E1, A1, st1⟩ := newP X0 hx hZ (hw _ (List.mem_of_getElem? (i := 0) rfl)) e0 (g := (mkF m 33 #[.val (.int im), .val (.int ib), .val (.int i0), .val (.int i1), .val (.int i2), .val (.long ga), .second, .val (.int (im &&& (3 : Int32))), .val (.int (1 : Int32)), .val (.int (0 : Int32)), .unset, .unset, .unset, .unset, .unset, .unset, .unset, .unset, .unset, .unset, .unset, .unset, .unset, .unset, .unset, .unset, .unset, .unset, .unset] [(.int (3 : Int32))])) rfl (hb hby at_33) rfl (by decide) (cap := 3) (by decide) (by decide) (by decide) (by decide)
  obtain ⟨b1, g1⟩ : ∃ z, z = h0.size := ⟨_, rfl⟩
  rw [← g1] at A1 st1
  have g_b1 : n0 ≤ b1 := Nat.le_trans Z0 (Nat.le_of_eq g1.symm)
  have sz_b1 : h0.size ≤ b1 := Nat.le_trans (Keep.refl h0 []).1 (Nat.le_of_eq g1.symm)
  have z2 := Nat.le_trans Z0 E1.1
  have kp3 := (Keep.refl h0 []).ext E1
  have V_b1 : Arv Z h1 b1 k1 .int (3 : Int32) [(.int (0 : Int32)), (.int (0 : Int32)), (.int (0 : Int32))] (.int (0 : Int32)) := (Arv.new A1 (by decide)).pad (pad_rep [] (.int (0 : Int32)) 3)
  obtain ⟨clq4, Arq4, cq4, Sq4, nq4, Hq4, Gq4⟩ := id V_b1
  have hiq4 : ¬ ((0 : Int32) < 0 ∨ clq4.slots.size ≤ ((0 : Int32)).toNatClampNeg) := inb_of Sq4 ⟨by decide, by decide⟩
  obtain ⟨T5, h5, X5, e5, W5, st5⟩ := stI X1 hx hZ e1 Arq4 (j := (0 : Int32)) hiq4 (g := (mkF m 46 #[.val (.int im), .val (.int ib), .val (.int i0), .val (.int i1), .val (.int i2), .val (.long ga), .second, .val (.int (im &&& (3 : Int32))), .val (.int (1 : Int32)), .val (.int (0 : Int32)), .val (.ref b1), .unset, .unset, .unset, .unset, .unset, .unset, .unset, .unset, .unset, .unset, .unset, .unset, .unset, .unset, .unset, .unset, .unset, .unset] [(.int (0 : Int32)), (.int (0 : Int32)), (.ref b1)])) rfl rfl (hb hby at_46)
  have v6 : Arv Z h5 b1 k1 .int (3 : Int32) [(.int (0 : Int32)), (.int (0 : Int32)), (.int (0 : Int32))] (.int (0 : Int32)) := Arv.set Arq4 cq4 Sq4 nq4 Hq4 Gq4 rfl W5 0 rfl (Nat.le_of_ble_eq_true rfl)
  have kp7 := kp3.wr W5 (Or.inr sz_b1)
  have z8 := Nat.le_trans z2 (Keep.of_wr W5).1
  have N9 := Fr.snoc X5 N0 g_b1
  obtain ⟨clq10, Arq10, cq10, Sq10, nq10, Hq10, Gq10⟩ := id v6
  have hiq10 : ¬ ((1 : Int32) < 0 ∨ clq10.slots.size ≤ ((1 : Int32)).toNatClampNeg) := inb_of Sq10 ⟨by decide, by decide⟩
  obtain ⟨T11, h11, X11, e11, W11, st11⟩ := stI X5 hx hZ e5 Arq10 (j := (1 : Int32)) hiq10 (g := (mkF m 51 #[.val (.int im), .val (.int ib), .val (.int i0), .val (.int i1), .val (.int i2), .val (.long ga), .second, .val (.int (im &&& (3 : Int32))), .val (.int (1 : Int32)), .val (.int (0 : Int32)), .val (.ref b1), .unset, .unset, .unset, .unset, .unset, .unset, .unset, .unset, .unset, .unset, .unset, .unset, .unset, .unset, .unset, .unset, .unset, .unset] [(.int (1 : Int32)), (.int (1 : Int32)), (.ref b1)])) rfl rfl (hb hby at_51)
  have v12 : Arv Z h11 b1 k1 .int (3 : Int32) [(.int (0 : Int32)), (.int (1 : Int32)), (.int (0 : Int32))] (.int (0 : Int32)) := Arv.set Arq10 cq10 Sq10 nq10 Hq10 Gq10 rfl W11 1 rfl (Nat.le_of_ble_eq_true rfl)
  have kp13 := kp7.wr W11 (Or.inr sz_b1)
  have z14 := Nat.le_trans z8 (Keep.of_wr W11).1
  have N15 := Fr.snoc X11 N9 g_b1
  obtain ⟨clq16, Arq16, cq16, Sq16, nq16, Hq16, Gq16⟩ := id v12
  have hiq16 : ¬ ((1 : Int32) < 0 ∨ clq16.slots.size ≤ ((1 : Int32)).toNatClampNeg) := inb_of Sq16 ⟨by decide, by decide⟩
  have haq16 : clq16.slots[((1 : Int32)).toNatClampNeg]? = some (.int (1 : Int32)) := Hq16.at hiq16 rfl
  obtain ⟨clq17, Arq17, cq17, Sq17, nq17, Hq17, Gq17⟩ := id v12
  have hiq17 : ¬ ((2 : Int32) < 0 ∨ clq17.slots.size ≤ ((2 : Int32)).toNatClampNeg) := inb_of Sq17 ⟨by decide, by decide⟩
  obtain ⟨T18, h18, X18, e18, W18, st18⟩ := stI X11 hx hZ e11 Arq17 (j := (2 : Int32)) hiq17 (g := (mkF m 85 #[.val (.int im), .val (.int ib), .val (.int i0), .val (.int i1), .val (.int i2), .val (.long ga), .second, .val (.int (im &&& (3 : Int32))), .val (.int (1 : Int32)), .val (.int (0 : Int32)), .val (.ref b1), .unset, .unset, .unset, .unset, .unset, .unset, .unset, .unset, .unset, .unset, .unset, .unset, .unset, .unset, .unset, .unset, .unset, .unset] [(.int (1 : Int32)), (.int (2 : Int32)), (.ref b1)])) rfl rfl (hb hby at_85)
  have v19 : Arv Z h18 b1 k1 .int (3 : Int32) [(.int (0 : Int32)), (.int (1 : Int32)), (.int (1 : Int32))] (.int (0 : Int32)) := Arv.set Arq17 cq17 Sq17 nq17 Hq17 Gq17 rfl W18 2 rfl (Nat.le_of_ble_eq_true rfl)
  have kp20 := kp13.wr W18 (Or.inr sz_b1)
  have z21 := Nat.le_trans z14 (Keep.of_wr W18).1
  have N22 := Fr.snoc X18 N15 g_b1
  obtain ⟨clq23, Arq23, cq23, Sq23, nq23, Hq23, Gq23⟩ := id v19
  have hiq23 : ¬ ((0 : Int32) < 0 ∨ clq23.slots.size ≤ ((0 : Int32)).toNatClampNeg) := inb_of Sq23 ⟨by decide, by decide⟩
  have haq23 : clq23.slots[((0 : Int32)).toNatClampNeg]? = some (.int (0 : Int32)) := Hq23.at hiq23 rfl
  obtain ⟨clq24, Arq24, cq24, Sq24, nq24, Hq24, Gq24⟩ := id v19
  have hiq24 : ¬ ((1 : Int32) < 0 ∨ clq24.slots.size ≤ ((1 : Int32)).toNatClampNeg) := inb_of Sq24 ⟨by decide, by decide⟩
  obtain ⟨T25, h25, X25, e25, W25, st25⟩ := stI X18 hx hZ e18 Arq24 (j := (1 : Int32)) hiq24 (g := (mkF m 93 #[.val (.int im), .val (.int ib), .val (.int i0), .val (.int i1), .val (.int i2), .val (.long ga), .second, .val (.int (im &&& (3 : Int32))), .val (.int (1 : Int32)), .val (.int (0 : Int32)), .val (.ref b1), .unset, .unset, .unset, .unset, .unset, .unset, .unset, .unset, .unset, .unset, .unset, .unset, .unset, .unset, .unset, .unset, .unset, .unset] [(.int (0 : Int32)), (.int (1 : Int32)), (.ref b1)])) rfl rfl (hb hby at_93)
  have v26 : Arv Z h25 b1 k1 .int (3 : Int32) [(.int (0 : Int32)), (.int (0 : Int32)), (.int (1 : Int32))] (.int (0 : Int32)) := Arv.set Arq24 cq24 Sq24 nq24 Hq24 Gq24 rfl W25 1 rfl (Nat.le_of_ble_eq_true rfl)
  have kp27 := kp20.wr W25 (Or.inr sz_b1)
  have z28 := Nat.le_trans z21 (Keep.of_wr W25).1
  have N29 := Fr.snoc X25 N22 g_b1
  obtain ⟨clq30, Arq30, cq30, Sq30, nq30, Hq30, Gq30⟩ := id v26
  have hiq30 : ¬ ((0 : Int32) < 0 ∨ clq30.slots.size ≤ ((0 : Int32)).toNatClampNeg) := inb_of Sq30 ⟨by decide, by decide⟩
  obtain ⟨T31, h31, X31, e31, W31, st31⟩ := stI X25 hx hZ e25 Arq30 (j := (0 : Int32)) hiq30 (g := (mkF m 98 #[.val (.int im), .val (.int ib), .val (.int i0), .val (.int i1), .val (.int i2), .val (.long ga), .second, .val (.int (im &&& (3 : Int32))), .val (.int (1 : Int32)), .val (.int (0 : Int32)), .val (.ref b1), .unset, .unset, .unset, .unset, .unset, .unset, .unset, .unset, .unset, .unset, .unset, .unset, .unset, .unset, .unset, .unset, .unset, .unset] [(.int (2 : Int32)), (.int (0 : Int32)), (.ref b1)])) rfl rfl (hb hby at_98)
  have v32 : Arv Z h31 b1 k1 .int (3 : Int32) [(.int (2 : Int32)), (.int (0 : Int32)), (.int (1 : Int32))] (.int (0 : Int32)) := Arv.set Arq30 cq30 Sq30 nq30 Hq30 Gq30 rfl W31 0 rfl (Nat.le_of_ble_eq_true rfl)
  have kp33 := kp27.wr W31 (Or.inr sz_b1)
  have z34 := Nat.le_trans z28 (Keep.of_wr W31).1
  have N35 := Fr.snoc X31 N29 g_b1
  have k36 : ∀ tq, Steps p.tables e below (T31.setTop (mkF m 103 #[.val (.int im), .val (.int ib), .val (.int i0), .val (.int i1), .val (.int i2), .val (.long ga), .second, .val (.int (im &&& (3 : Int32))), .val (.int (1 : Int32)), .val (.int (0 : Int32)), .val (.ref b1), .val (.long (ib.toInt64)), .second, .unset, .unset, .unset, .unset, .unset, .unset, .unset, .unset, .unset, .unset, .unset, .unset, .unset, .unset, .unset, .unset] [])) tq → Steps p.tables e below (s₁.setTop (entryFrame m #[(.int im), (.int ib), (.int i0), (.int i1), (.int i2), (.long ga)] maxLocals)) tq := by
    intro tq kt
    refine pre0 tq ?_
    refine XS.iloadN X0.here hx rfl (hb hby at_0) rfl ?_
    refine XS.iconst X0.here hx rfl (hb hby at_1) ?_
    refine XS.iand X0.here hx rfl (hb hby at_2) rfl ?_
    refine XS.istore X0.here hx rfl (hb hby at_3) rfl (l' := #[.val (.int im), .val (.int ib), .val (.int i0), .val (.int i1), .val (.int i2), .val (.long ga), .second, .val (.int (im &&& (3 : Int32))), .unset, .unset, .unset, .unset, .unset, .unset, .unset, .unset, .unset, .unset, .unset, .unset, .unset, .unset, .unset, .unset, .unset, .unset, .unset, .unset, .unset]) rfl ?_
    refine XS.iloadN X0.here hx rfl (hb hby at_5) rfl ?_
    show Steps p.tables e below (s₁.setTop (mkF m 6 #[.val (.int im), .val (.int ib), .val (.int i0), .val (.int i1), .val (.int i2), .val (.long ga), .second, .val (.int (im &&& (3 : Int32))), .unset, .unset, .unset, .unset, .unset, .unset, .unset, .unset, .unset, .unset, .unset, .unset, .unset, .unset, .unset, .unset, .unset, .unset, .unset, .unset, .unset] [(.int im)])) _
    refine XS.iconst X0.here hx rfl (hb hby at_6) ?_
    refine XS.iand X0.here hx rfl (hb hby at_7) rfl ?_
    show Steps p.tables e below (s₁.setTop (mkF m 8 #[.val (.int im), .val (.int ib), .val (.int i0), .val (.int i1), .val (.int i2), .val (.long ga), .second, .val (.int (im &&& (3 : Int32))), .unset, .unset, .unset, .unset, .unset, .unset, .unset, .unset, .unset, .unset, .unset, .unset, .unset, .unset, .unset, .unset, .unset, .unset, .unset, .unset, .unset] [(.int (im &&& (4 : Int32)))])) _
    refine XS.ifNo X0.here hx rfl (hb hby at_8) rfl ((if0 _ _).trans (feq he1).1) ?_
    refine XS.iconst X0.here hx rfl (hb hby at_11) ?_
    refine XS.goto X0.here hx rfl (pc0 := 12) (pc' := 16) rfl (hb hby at_12) (by decide) (by decide) ?_
    refine XS.istore X0.here hx rfl (hb hby at_16) rfl (l' := #[.val (.int im), .val (.int ib), .val (.int i0), .val (.int i1), .val (.int i2), .val (.long ga), .second, .val (.int (im &&& (3 : Int32))), .val (.int (1 : Int32)), .unset, .unset, .unset, .unset, .unset, .unset, .unset, .unset, .unset, .unset, .unset, .unset, .unset, .unset, .unset, .unset, .unset, .unset, .unset, .unset]) rfl ?_
    refine XS.iloadN X0.here hx rfl (hb hby at_18) rfl ?_
    show Steps p.tables e below (s₁.setTop (mkF m 19 #[.val (.int im), .val (.int ib), .val (.int i0), .val (.int i1), .val (.int i2), .val (.long ga), .second, .val (.int (im &&& (3 : Int32))), .val (.int (1 : Int32)), .unset, .unset, .unset, .unset, .unset, .unset, .unset, .unset, .unset, .unset, .unset, .unset, .unset, .unset, .unset, .unset, .unset, .unset, .unset, .unset] [(.int im)])) _
    refine XS.bipush X0.here hx rfl (hb hby at_19) ?_
    refine XS.iand X0.here hx rfl (hb hby at_21) rfl ?_
    show Steps p.tables e below (s₁.setTop (mkF m 22 #[.val (.int im), .val (.int ib), .val (.int i0), .val (.int i1), .val (.int i2), .val (.long ga), .second, .val (.int (im &&& (3 : Int32))), .val (.int (1 : Int32)), .unset, .unset, .unset, .unset, .unset, .unset, .unset, .unset, .unset, .unset, .unset, .unset, .unset, .unset, .unset, .unset, .unset, .unset, .unset, .unset] [(.int (im &&& (8 : Int32)))])) _
    refine XS.ifYes X0.here hx rfl (pc0 := 22) (pc' := 29) rfl (hb hby at_22) rfl ((if0 _ _).trans (teq he2).1) (by decide) (by decide) ?_
    refine XS.iconst X0.here hx rfl (hb hby at_29) ?_
    refine XS.istore X0.here hx rfl (hb hby at_30) rfl (l' := #[.val (.int im), .val (.int ib), .val (.int i0), .val (.int i1), .val (.int i2), .val (.long ga), .second, .val (.int (im &&& (3 : Int32))), .val (.int (1 : Int32)), .val (.int (0 : Int32)), .unset, .unset, .unset, .unset, .unset, .unset, .unset, .unset, .unset, .unset, .unset, .unset, .unset, .unset, .unset, .unset, .unset, .unset, .unset]) rfl ?_
    refine XS.iconst X0.here hx rfl (hb hby at_32) ?_
    refine st1 _ ?_
    show Steps p.tables e below (T1.setTop (mkF m 35 #[.val (.int im), .val (.int ib), .val (.int i0), .val (.int i1), .val (.int i2), .val (.long ga), .second, .val (.int (im &&& (3 : Int32))), .val (.int (1 : Int32)), .val (.int (0 : Int32)), .unset, .unset, .unset, .unset, .unset, .unset, .unset, .unset, .unset, .unset, .unset, .unset, .unset, .unset, .unset, .unset, .unset, .unset, .unset] [(.ref b1)])) _
    refine XS.astore X1.here hx rfl (hb hby at_35) rfl rfl (l' := #[.val (.int im), .val (.int ib), .val (.int i0), .val (.int i1), .val (.int i2), .val (.long ga), .second, .val (.int (im &&& (3 : Int32))), .val (.int (1 : Int32)), .val (.int (0 : Int32)), .val (.ref b1), .unset, .unset, .unset, .unset, .unset, .unset, .unset, .unset, .unset, .unset, .unset, .unset, .unset, .unset, .unset, .unset, .unset, .unset]) rfl ?_
    refine XS.iload X1.here hx rfl (hb hby at_37) rfl ?_
    show Steps p.tables e below (T1.setTop (mkF m 39 #[.val (.int im), .val (.int ib), .val (.int i0), .val (.int i1), .val (.int i2), .val (.long ga), .second, .val (.int (im &&& (3 : Int32))), .val (.int (1 : Int32)), .val (.int (0 : Int32)), .val (.ref b1), .unset, .unset, .unset, .unset, .unset, .unset, .unset, .unset, .unset, .unset, .unset, .unset, .unset, .unset, .unset, .unset, .unset, .unset] [(.int (1 : Int32))])) _
    refine XS.ifNo X1.here hx rfl (hb hby at_39) rfl ((if0 _ _).trans (feq (by decide : ¬ ((1 : Int32) = (0 : Int32)))).1) ?_
    refine XS.aload X1.here hx rfl (hb hby at_42) rfl rfl ?_
    refine XS.iconst X1.here hx rfl (hb hby at_44) ?_
    refine XS.iconst X1.here hx rfl (hb hby at_45) ?_
    refine st5 _ ?_
    show Steps p.tables e below (T5.setTop (mkF m 47 #[.val (.int im), .val (.int ib), .val (.int i0), .val (.int i1), .val (.int i2), .val (.long ga), .second, .val (.int (im &&& (3 : Int32))), .val (.int (1 : Int32)), .val (.int (0 : Int32)), .val (.ref b1), .unset, .unset, .unset, .unset, .unset, .unset, .unset, .unset, .unset, .unset, .unset, .unset, .unset, .unset, .unset, .unset, .unset, .unset] [])) _
    refine XS.aload X5.here hx rfl (hb hby at_47) rfl rfl ?_
    refine XS.iconst X5.here hx rfl (hb hby at_49) ?_
    refine XS.iconst X5.here hx rfl (hb hby at_50) ?_
    refine st11 _ ?_
    refine XS.goto X11.here hx rfl (pc0 := 52) (pc' := 65) rfl (hb hby at_52) (by decide) (by decide) ?_
    refine XS.iload X11.here hx rfl (hb hby at_65) rfl ?_
    show Steps p.tables e below (T11.setTop (mkF m 67 #[.val (.int im), .val (.int ib), .val (.int i0), .val (.int i1), .val (.int i2), .val (.long ga), .second, .val (.int (im &&& (3 : Int32))), .val (.int (1 : Int32)), .val (.int (0 : Int32)), .val (.ref b1), .unset, .unset, .unset, .unset, .unset, .unset, .unset, .unset, .unset, .unset, .unset, .unset, .unset, .unset, .unset, .unset, .unset, .unset] [(.int (0 : Int32))])) _
    refine XS.ifYes X11.here hx rfl (pc0 := 67) (pc' := 78) rfl (hb hby at_67) rfl ((if0 _ _).trans (teq (by decide : ((0 : Int32) = (0 : Int32)))).1) (by decide) (by decide) ?_
    show Steps p.tables e below (T11.setTop (mkF m 78 #[.val (.int im), .val (.int ib), .val (.int i0), .val (.int i1), .val (.int i2), .val (.long ga), .second, .val (.int (im &&& (3 : Int32))), .val (.int (1 : Int32)), .val (.int (0 : Int32)), .val (.ref b1), .unset, .unset, .unset, .unset, .unset, .unset, .unset, .unset, .unset, .unset, .unset, .unset, .unset, .unset, .unset, .unset, .unset, .unset] [])) _
    refine XS.aload X11.here hx rfl (hb hby at_78) rfl rfl ?_
    refine XS.iconst X11.here hx rfl (hb hby at_80) ?_
    refine XS.aload X11.here hx rfl (hb hby at_81) rfl rfl ?_
    refine XS.iconst X11.here hx rfl (hb hby at_83) ?_
    refine X11.iaload hx (j := (1 : Int32)) (v := (.int (1 : Int32))) (by rw [e11]; exact Arq16.1) (State.isArrayOf_alike hZ.alike Arq16.2.1) Arq16.2.2 hiq16 haq16 (g := (mkF m 84 #[.val (.int im), .val (.int ib), .val (.int i0), .val (.int i1), .val (.int i2), .val (.long ga), .second, .val (.int (im &&& (3 : Int32))), .val (.int (1 : Int32)), .val (.int (0 : Int32)), .val (.ref b1), .unset, .unset, .unset, .unset, .unset, .unset, .unset, .unset, .unset, .unset, .unset, .unset, .unset, .unset, .unset, .unset, .unset, .unset] [(.int (1 : Int32)), (.ref b1), (.int (2 : Int32)), (.ref b1)])) rfl rfl (hb hby at_84) _ ?_
    refine st18 _ ?_
    show Steps p.tables e below (T18.setTop (mkF m 86 #[.val (.int im), .val (.int ib), .val (.int i0), .val (.int i1), .val (.int i2), .val (.long ga), .second, .val (.int (im &&& (3 : Int32))), .val (.int (1 : Int32)), .val (.int (0 : Int32)), .val (.ref b1), .unset, .unset, .unset, .unset, .unset, .unset, .unset, .unset, .unset, .unset, .unset, .unset, .unset, .unset, .unset, .unset, .unset, .unset] [])) _
    refine XS.aload X18.here hx rfl (hb hby at_86) rfl rfl ?_
    refine XS.iconst X18.here hx rfl (hb hby at_88) ?_
    refine XS.aload X18.here hx rfl (hb hby at_89) rfl rfl ?_
    refine XS.iconst X18.here hx rfl (hb hby at_91) ?_
    refine X18.iaload hx (j := (0 : Int32)) (v := (.int (0 : Int32))) (by rw [e18]; exact Arq23.1) (State.isArrayOf_alike hZ.alike Arq23.2.1) Arq23.2.2 hiq23 haq23 (g := (mkF m 92 #[.val (.int im), .val (.int ib), .val (.int i0), .val (.int i1), .val (.int i2), .val (.long ga), .second, .val (.int (im &&& (3 : Int32))), .val (.int (1 : Int32)), .val (.int (0 : Int32)), .val (.ref b1), .unset, .unset, .unset, .unset, .unset, .unset, .unset, .unset, .unset, .unset, .unset, .unset, .unset, .unset, .unset, .unset, .unset, .unset] [(.int (0 : Int32)), (.ref b1), (.int (1 : Int32)), (.ref b1)])) rfl rfl (hb hby at_92) _ ?_
    refine st25 _ ?_
    show Steps p.tables e below (T25.setTop (mkF m 94 #[.val (.int im), .val (.int ib), .val (.int i0), .val (.int i1), .val (.int i2), .val (.long ga), .second, .val (.int (im &&& (3 : Int32))), .val (.int (1 : Int32)), .val (.int (0 : Int32)), .val (.ref b1), .unset, .unset, .unset, .unset, .unset, .unset, .unset, .unset, .unset, .unset, .unset, .unset, .unset, .unset, .unset, .unset, .unset, .unset] [])) _
    refine XS.aload X25.here hx rfl (hb hby at_94) rfl rfl ?_
    refine XS.iconst X25.here hx rfl (hb hby at_96) ?_
    refine XS.iconst X25.here hx rfl (hb hby at_97) ?_
    refine st31 _ ?_
    refine XS.iloadN X31.here hx rfl (hb hby at_99) rfl ?_
    refine XS.i2l X31.here hx rfl (hb hby at_100) rfl ?_
    show Steps p.tables e below (T31.setTop (mkF m 101 #[.val (.int im), .val (.int ib), .val (.int i0), .val (.int i1), .val (.int i2), .val (.long ga), .second, .val (.int (im &&& (3 : Int32))), .val (.int (1 : Int32)), .val (.int (0 : Int32)), .val (.ref b1), .unset, .unset, .unset, .unset, .unset, .unset, .unset, .unset, .unset, .unset, .unset, .unset, .unset, .unset, .unset, .unset, .unset, .unset] [(.long (ib.toInt64))])) _
    refine XS.lstore X31.here hx rfl (hb hby at_101) rfl (l' := #[.val (.int im), .val (.int ib), .val (.int i0), .val (.int i1), .val (.int i2), .val (.long ga), .second, .val (.int (im &&& (3 : Int32))), .val (.int (1 : Int32)), .val (.int (0 : Int32)), .val (.ref b1), .val (.long (ib.toInt64)), .second, .unset, .unset, .unset, .unset, .unset, .unset, .unset, .unset, .unset, .unset, .unset, .unset, .unset, .unset, .unset, .unset]) rfl ?_
    exact kt
  obtain ⟨s0, hs0⟩ : ∃ z : Int64, z = (ib.toInt64) := ⟨_, rfl⟩
  have k37 : ∀ tq, Steps p.tables e below (T31.setTop (mkF m 103 #[.val (.int im), .val (.int ib), .val (.int i0), .val (.int i1), .val (.int i2), .val (.long ga), .second, .val (.int (im &&& (3 : Int32))), .val (.int (1 : Int32)), .val (.int (0 : Int32)), .val (.ref b1), .val (.long s0), .second, .unset, .unset, .unset, .unset, .unset, .unset, .unset, .unset, .unset, .unset, .unset, .unset, .unset, .unset, .unset, .unset] [])) tq → Steps p.tables e below (s₁.setTop (entryFrame m #[(.int im), (.int ib), (.int i0), (.int i1), (.int i2), (.long ga)] maxLocals)) tq := by
    intro tq kt
    subst hs0
    exact k36 tq kt
  have k38 : ∀ tq, Steps p.tables e below (T31.setTop (mkF m 113 #[.val (.int im), .val (.int ib), .val (.int i0), .val (.int i1), .val (.int i2), .val (.long ga), .second, .val (.int (im &&& (3 : Int32))), .val (.int (1 : Int32)), .val (.int (0 : Int32)), .val (.ref b1), .val (.long s0), .second, .val (.long (s0 + ((i0 &&& (2147483647 : Int32)).toInt64))), .second, .unset, .unset, .unset, .unset, .unset, .unset, .unset, .unset, .unset, .unset, .unset, .unset, .unset, .unset] [])) tq → Steps p.tables e below (s₁.setTop (entryFrame m #[(.int im), (.int ib), (.int i0), (.int i1), (.int i2), (.long ga)] maxLocals)) tq := by
    intro tq kt
    refine k37 tq ?_
    refine XS.lload X31.here hx rfl (hb hby at_103) rfl ?_
    refine XS.iloadN X31.here hx rfl (hb hby at_105) rfl ?_
    show Steps p.tables e below (T31.setTop (mkF m 106 #[.val (.int im), .val (.int ib), .val (.int i0), .val (.int i1), .val (.int i2), .val (.long ga), .second, .val (.int (im &&& (3 : Int32))), .val (.int (1 : Int32)), .val (.int (0 : Int32)), .val (.ref b1), .val (.long s0), .second, .unset, .unset, .unset, .unset, .unset, .unset, .unset, .unset, .unset, .unset, .unset, .unset, .unset, .unset, .unset, .unset] [(.int i0), (.long s0)])) _
    refine X31.ldcInt hx hown (mvT hZ (hw _ (List.mem_of_getElem? (i := 1) rfl))) (g := (mkF m 106 #[.val (.int im), .val (.int ib), .val (.int i0), .val (.int i1), .val (.int i2), .val (.long ga), .second, .val (.int (im &&& (3 : Int32))), .val (.int (1 : Int32)), .val (.int (0 : Int32)), .val (.ref b1), .val (.long s0), .second, .unset, .unset, .unset, .unset, .unset, .unset, .unset, .unset, .unset, .unset, .unset, .unset, .unset, .unset, .unset, .unset] [(.int i0), (.long s0)])) rfl (hb hby at_106) _ ?_
    refine XS.iand X31.here hx rfl (hb hby at_108) rfl ?_
    refine XS.i2l X31.here hx rfl (hb hby at_109) rfl ?_
    show Steps p.tables e below (T31.setTop (mkF m 110 #[.val (.int im), .val (.int ib), .val (.int i0), .val (.int i1), .val (.int i2), .val (.long ga), .second, .val (.int (im &&& (3 : Int32))), .val (.int (1 : Int32)), .val (.int (0 : Int32)), .val (.ref b1), .val (.long s0), .second, .unset, .unset, .unset, .unset, .unset, .unset, .unset, .unset, .unset, .unset, .unset, .unset, .unset, .unset, .unset, .unset] [(.long ((i0 &&& (2147483647 : Int32)).toInt64)), (.long s0)])) _
    refine XS.ladd X31.here hx rfl (hb hby at_110) rfl ?_
    refine XS.lstore X31.here hx rfl (hb hby at_111) rfl (l' := #[.val (.int im), .val (.int ib), .val (.int i0), .val (.int i1), .val (.int i2), .val (.long ga), .second, .val (.int (im &&& (3 : Int32))), .val (.int (1 : Int32)), .val (.int (0 : Int32)), .val (.ref b1), .val (.long s0), .second, .val (.long (s0 + ((i0 &&& (2147483647 : Int32)).toInt64))), .second, .unset, .unset, .unset, .unset, .unset, .unset, .unset, .unset, .unset, .unset, .unset, .unset, .unset, .unset]) rfl ?_
    exact kt
  obtain ⟨f0, hf0⟩ : ∃ z : Int64, z = (s0 + ((i0 &&& (2147483647 : Int32)).toInt64)) := ⟨_, rfl⟩
  have k39 : ∀ tq, Steps p.tables e below (T31.setTop (mkF m 113 #[.val (.int im), .val (.int ib), .val (.int i0), .val (.int i1), .val (.int i2), .val (.long ga), .second, .val (.int (im &&& (3 : Int32))), .val (.int (1 : Int32)), .val (.int (0 : Int32)), .val (.ref b1), .val (.long s0), .second, .val (.long f0), .second, .unset, .unset, .unset, .unset, .unset, .unset, .unset, .unset, .unset, .unset, .unset, .unset, .unset, .unset] [])) tq → Steps p.tables e below (s₁.setTop (entryFrame m #[(.int im), (.int ib), (.int i0), (.int i1), (.int i2), (.long ga)] maxLocals)) tq := by
    intro tq kt
    subst hf0
    exact k38 tq kt
  have k40 : ∀ tq, Steps p.tables e below (T31.setTop (mkF m 124 #[.val (.int im), .val (.int ib), .val (.int i0), .val (.int i1), .val (.int i2), .val (.long ga), .second, .val (.int (im &&& (3 : Int32))), .val (.int (1 : Int32)), .val (.int (0 : Int32)), .val (.ref b1), .val (.long s0), .second, .val (.long f0), .second, .val (.long (f0 + (ga &&& (1048575 : Int64)))), .second, .unset, .unset, .unset, .unset, .unset, .unset, .unset, .unset, .unset, .unset, .unset, .unset] [])) tq → Steps p.tables e below (s₁.setTop (entryFrame m #[(.int im), (.int ib), (.int i0), (.int i1), (.int i2), (.long ga)] maxLocals)) tq := by
    intro tq kt
    refine k39 tq ?_
    refine XS.lload X31.here hx rfl (hb hby at_113) rfl ?_
    refine XS.lload X31.here hx rfl (hb hby at_115) rfl ?_
    show Steps p.tables e below (T31.setTop (mkF m 117 #[.val (.int im), .val (.int ib), .val (.int i0), .val (.int i1), .val (.int i2), .val (.long ga), .second, .val (.int (im &&& (3 : Int32))), .val (.int (1 : Int32)), .val (.int (0 : Int32)), .val (.ref b1), .val (.long s0), .second, .val (.long f0), .second, .unset, .unset, .unset, .unset, .unset, .unset, .unset, .unset, .unset, .unset, .unset, .unset, .unset, .unset] [(.long ga), (.long f0)])) _
    refine X31.ldc2Long hx hown (mvT hZ (hw _ (List.mem_of_getElem? (i := 2) rfl))) (g := (mkF m 117 #[.val (.int im), .val (.int ib), .val (.int i0), .val (.int i1), .val (.int i2), .val (.long ga), .second, .val (.int (im &&& (3 : Int32))), .val (.int (1 : Int32)), .val (.int (0 : Int32)), .val (.ref b1), .val (.long s0), .second, .val (.long f0), .second, .unset, .unset, .unset, .unset, .unset, .unset, .unset, .unset, .unset, .unset, .unset, .unset, .unset, .unset] [(.long ga), (.long f0)])) rfl (hb hby at_117) _ ?_
    refine XS.land X31.here hx rfl (hb hby at_120) rfl ?_
    show Steps p.tables e below (T31.setTop (mkF m 121 #[.val (.int im), .val (.int ib), .val (.int i0), .val (.int i1), .val (.int i2), .val (.long ga), .second, .val (.int (im &&& (3 : Int32))), .val (.int (1 : Int32)), .val (.int (0 : Int32)), .val (.ref b1), .val (.long s0), .second, .val (.long f0), .second, .unset, .unset, .unset, .unset, .unset, .unset, .unset, .unset, .unset, .unset, .unset, .unset, .unset, .unset] [(.long (ga &&& (1048575 : Int64))), (.long f0)])) _
    refine XS.ladd X31.here hx rfl (hb hby at_121) rfl ?_
    refine XS.lstore X31.here hx rfl (hb hby at_122) rfl (l' := #[.val (.int im), .val (.int ib), .val (.int i0), .val (.int i1), .val (.int i2), .val (.long ga), .second, .val (.int (im &&& (3 : Int32))), .val (.int (1 : Int32)), .val (.int (0 : Int32)), .val (.ref b1), .val (.long s0), .second, .val (.long f0), .second, .val (.long (f0 + (ga &&& (1048575 : Int64)))), .second, .unset, .unset, .unset, .unset, .unset, .unset, .unset, .unset, .unset, .unset, .unset, .unset]) rfl ?_
    exact kt
  obtain ⟨s1, hs1⟩ : ∃ z : Int64, z = (f0 + (ga &&& (1048575 : Int64))) := ⟨_, rfl⟩
  have k41 : ∀ tq, Steps p.tables e below (T31.setTop (mkF m 124 #[.val (.int im), .val (.int ib), .val (.int i0), .val (.int i1), .val (.int i2), .val (.long ga), .second, .val (.int (im &&& (3 : Int32))), .val (.int (1 : Int32)), .val (.int (0 : Int32)), .val (.ref b1), .val (.long s0), .second, .val (.long f0), .second, .val (.long s1), .second, .unset, .unset, .unset, .unset, .unset, .unset, .unset, .unset, .unset, .unset, .unset, .unset] [])) tq → Steps p.tables e below (s₁.setTop (entryFrame m #[(.int im), (.int ib), (.int i0), (.int i1), (.int i2), (.long ga)] maxLocals)) tq := by
    intro tq kt
    subst hs1
    exact k40 tq kt
  have k42 : ∀ tq, Steps p.tables e below (T31.setTop (mkF m 134 #[.val (.int im), .val (.int ib), .val (.int i0), .val (.int i1), .val (.int i2), .val (.long ga), .second, .val (.int (im &&& (3 : Int32))), .val (.int (1 : Int32)), .val (.int (0 : Int32)), .val (.ref b1), .val (.long s0), .second, .val (.long f0), .second, .val (.long s1), .second, .val (.long (s1 + ((i1 &&& (2147483647 : Int32)).toInt64))), .second, .unset, .unset, .unset, .unset, .unset, .unset, .unset, .unset, .unset, .unset] [])) tq → Steps p.tables e below (s₁.setTop (entryFrame m #[(.int im), (.int ib), (.int i0), (.int i1), (.int i2), (.long ga)] maxLocals)) tq := by
    intro tq kt
    refine k41 tq ?_
    refine XS.lload X31.here hx rfl (hb hby at_124) rfl ?_
    refine XS.iloadN X31.here hx rfl (hb hby at_126) rfl ?_
    show Steps p.tables e below (T31.setTop (mkF m 127 #[.val (.int im), .val (.int ib), .val (.int i0), .val (.int i1), .val (.int i2), .val (.long ga), .second, .val (.int (im &&& (3 : Int32))), .val (.int (1 : Int32)), .val (.int (0 : Int32)), .val (.ref b1), .val (.long s0), .second, .val (.long f0), .second, .val (.long s1), .second, .unset, .unset, .unset, .unset, .unset, .unset, .unset, .unset, .unset, .unset, .unset, .unset] [(.int i1), (.long s1)])) _
    refine X31.ldcInt hx hown (mvT hZ (hw _ (List.mem_of_getElem? (i := 1) rfl))) (g := (mkF m 127 #[.val (.int im), .val (.int ib), .val (.int i0), .val (.int i1), .val (.int i2), .val (.long ga), .second, .val (.int (im &&& (3 : Int32))), .val (.int (1 : Int32)), .val (.int (0 : Int32)), .val (.ref b1), .val (.long s0), .second, .val (.long f0), .second, .val (.long s1), .second, .unset, .unset, .unset, .unset, .unset, .unset, .unset, .unset, .unset, .unset, .unset, .unset] [(.int i1), (.long s1)])) rfl (hb hby at_127) _ ?_
    refine XS.iand X31.here hx rfl (hb hby at_129) rfl ?_
    show Steps p.tables e below (T31.setTop (mkF m 130 #[.val (.int im), .val (.int ib), .val (.int i0), .val (.int i1), .val (.int i2), .val (.long ga), .second, .val (.int (im &&& (3 : Int32))), .val (.int (1 : Int32)), .val (.int (0 : Int32)), .val (.ref b1), .val (.long s0), .second, .val (.long f0), .second, .val (.long s1), .second, .unset, .unset, .unset, .unset, .unset, .unset, .unset, .unset, .unset, .unset, .unset, .unset] [(.int (i1 &&& (2147483647 : Int32))), (.long s1)])) _
    refine XS.i2l X31.here hx rfl (hb hby at_130) rfl ?_
    refine XS.ladd X31.here hx rfl (hb hby at_131) rfl ?_
    refine XS.lstore X31.here hx rfl (hb hby at_132) rfl (l' := #[.val (.int im), .val (.int ib), .val (.int i0), .val (.int i1), .val (.int i2), .val (.long ga), .second, .val (.int (im &&& (3 : Int32))), .val (.int (1 : Int32)), .val (.int (0 : Int32)), .val (.ref b1), .val (.long s0), .second, .val (.long f0), .second, .val (.long s1), .second, .val (.long (s1 + ((i1 &&& (2147483647 : Int32)).toInt64))), .second, .unset, .unset, .unset, .unset, .unset, .unset, .unset, .unset, .unset, .unset]) rfl ?_
    exact kt
  obtain ⟨f1, hf1⟩ : ∃ z : Int64, z = (s1 + ((i1 &&& (2147483647 : Int32)).toInt64)) := ⟨_, rfl⟩
  have k43 : ∀ tq, Steps p.tables e below (T31.setTop (mkF m 134 #[.val (.int im), .val (.int ib), .val (.int i0), .val (.int i1), .val (.int i2), .val (.long ga), .second, .val (.int (im &&& (3 : Int32))), .val (.int (1 : Int32)), .val (.int (0 : Int32)), .val (.ref b1), .val (.long s0), .second, .val (.long f0), .second, .val (.long s1), .second, .val (.long f1), .second, .unset, .unset, .unset, .unset, .unset, .unset, .unset, .unset, .unset, .unset] [])) tq → Steps p.tables e below (s₁.setTop (entryFrame m #[(.int im), (.int ib), (.int i0), (.int i1), (.int i2), (.long ga)] maxLocals)) tq := by
    intro tq kt
    subst hf1
    exact k42 tq kt
  have k44 : ∀ tq, Steps p.tables e below (T31.setTop (mkF m 148 #[.val (.int im), .val (.int ib), .val (.int i0), .val (.int i1), .val (.int i2), .val (.long ga), .second, .val (.int (im &&& (3 : Int32))), .val (.int (1 : Int32)), .val (.int (0 : Int32)), .val (.ref b1), .val (.long s0), .second, .val (.long f0), .second, .val (.long s1), .second, .val (.long f1), .second, .val (.long (f1 + (((ga.toUInt64 >>> ((20 : Int32) &&& 0x3f).toInt64.toUInt64).toInt64) &&& (1048575 : Int64)))), .second, .unset, .unset, .unset, .unset, .unset, .unset, .unset, .unset] [])) tq → Steps p.tables e below (s₁.setTop (entryFrame m #[(.int im), (.int ib), (.int i0), (.int i1), (.int i2), (.long ga)] maxLocals)) tq := by
    intro tq kt
    refine k43 tq ?_
    refine XS.lload X31.here hx rfl (hb hby at_134) rfl ?_
    refine XS.lload X31.here hx rfl (hb hby at_136) rfl ?_
    refine XS.bipush X31.here hx rfl (hb hby at_138) ?_
    show Steps p.tables e below (T31.setTop (mkF m 140 #[.val (.int im), .val (.int ib), .val (.int i0), .val (.int i1), .val (.int i2), .val (.long ga), .second, .val (.int (im &&& (3 : Int32))), .val (.int (1 : Int32)), .val (.int (0 : Int32)), .val (.ref b1), .val (.long s0), .second, .val (.long f0), .second, .val (.long s1), .second, .val (.long f1), .second, .unset, .unset, .unset, .unset, .unset, .unset, .unset, .unset, .unset, .unset] [(.int (20 : Int32)), (.long ga), (.long f1)])) _
    refine XS.lushr X31.here hx rfl (hb hby at_140) rfl ?_
    show Steps p.tables e below (T31.setTop (mkF m 141 #[.val (.int im), .val (.int ib), .val (.int i0), .val (.int i1), .val (.int i2), .val (.long ga), .second, .val (.int (im &&& (3 : Int32))), .val (.int (1 : Int32)), .val (.int (0 : Int32)), .val (.ref b1), .val (.long s0), .second, .val (.long f0), .second, .val (.long s1), .second, .val (.long f1), .second, .unset, .unset, .unset, .unset, .unset, .unset, .unset, .unset, .unset, .unset] [(.long ((ga.toUInt64 >>> ((20 : Int32) &&& 0x3f).toInt64.toUInt64).toInt64)), (.long f1)])) _
    refine X31.ldc2Long hx hown (mvT hZ (hw _ (List.mem_of_getElem? (i := 2) rfl))) (g := (mkF m 141 #[.val (.int im), .val (.int ib), .val (.int i0), .val (.int i1), .val (.int i2), .val (.long ga), .second, .val (.int (im &&& (3 : Int32))), .val (.int (1 : Int32)), .val (.int (0 : Int32)), .val (.ref b1), .val (.long s0), .second, .val (.long f0), .second, .val (.long s1), .second, .val (.long f1), .second, .unset, .unset, .unset, .unset, .unset, .unset, .unset, .unset, .unset, .unset] [(.long ((ga.toUInt64 >>> ((20 : Int32) &&& 0x3f).toInt64.toUInt64).toInt64)), (.long f1)])) rfl (hb hby at_141) _ ?_
    refine XS.land X31.here hx rfl (hb hby at_144) rfl ?_
    refine XS.ladd X31.here hx rfl (hb hby at_145) rfl ?_
    refine XS.lstore X31.here hx rfl (hb hby at_146) rfl (l' := #[.val (.int im), .val (.int ib), .val (.int i0), .val (.int i1), .val (.int i2), .val (.long ga), .second, .val (.int (im &&& (3 : Int32))), .val (.int (1 : Int32)), .val (.int (0 : Int32)), .val (.ref b1), .val (.long s0), .second, .val (.long f0), .second, .val (.long s1), .second, .val (.long f1), .second, .val (.long (f1 + (((ga.toUInt64 >>> ((20 : Int32) &&& 0x3f).toInt64.toUInt64).toInt64) &&& (1048575 : Int64)))), .second, .unset, .unset, .unset, .unset, .unset, .unset, .unset, .unset]) rfl ?_
    exact kt
  obtain ⟨s2, hs2⟩ : ∃ z : Int64, z = (f1 + (((ga.toUInt64 >>> ((20 : Int32) &&& 0x3f).toInt64.toUInt64).toInt64) &&& (1048575 : Int64))) := ⟨_, rfl⟩
  have k45 : ∀ tq, Steps p.tables e below (T31.setTop (mkF m 148 #[.val (.int im), .val (.int ib), .val (.int i0), .val (.int i1), .val (.int i2), .val (.long ga), .second, .val (.int (im &&& (3 : Int32))), .val (.int (1 : Int32)), .val (.int (0 : Int32)), .val (.ref b1), .val (.long s0), .second, .val (.long f0), .second, .val (.long s1), .second, .val (.long f1), .second, .val (.long s2), .second, .unset, .unset, .unset, .unset, .unset, .unset, .unset, .unset] [])) tq → Steps p.tables e below (s₁.setTop (entryFrame m #[(.int im), (.int ib), (.int i0), (.int i1), (.int i2), (.long ga)] maxLocals)) tq := by
    intro tq kt
    subst hs2
    exact k44 tq kt
  have k46 : ∀ tq, Steps p.tables e below (T31.setTop (mkF m 159 #[.val (.int im), .val (.int ib), .val (.int i0), .val (.int i1), .val (.int i2), .val (.long ga), .second, .val (.int (im &&& (3 : Int32))), .val (.int (1 : Int32)), .val (.int (0 : Int32)), .val (.ref b1), .val (.long s0), .second, .val (.long f0), .second, .val (.long s1), .second, .val (.long f1), .second, .val (.long s2), .second, .val (.long (s2 + ((i2 &&& (2147483647 : Int32)).toInt64))), .second, .unset, .unset, .unset, .unset, .unset, .unset] [])) tq → Steps p.tables e below (s₁.setTop (entryFrame m #[(.int im), (.int ib), (.int i0), (.int i1), (.int i2), (.long ga)] maxLocals)) tq := by
    intro tq kt
    refine k45 tq ?_
    refine XS.lload X31.here hx rfl (hb hby at_148) rfl ?_
    show Steps p.tables e below (T31.setTop (mkF m 150 #[.val (.int im), .val (.int ib), .val (.int i0), .val (.int i1), .val (.int i2), .val (.long ga), .second, .val (.int (im &&& (3 : Int32))), .val (.int (1 : Int32)), .val (.int (0 : Int32)), .val (.ref b1), .val (.long s0), .second, .val (.long f0), .second, .val (.long s1), .second, .val (.long f1), .second, .val (.long s2), .second, .unset, .unset, .unset, .unset, .unset, .unset, .unset, .unset] [(.long s2)])) _
    refine XS.iload X31.here hx rfl (hb hby at_150) rfl ?_
    show Steps p.tables e below (T31.setTop (mkF m 152 #[.val (.int im), .val (.int ib), .val (.int i0), .val (.int i1), .val (.int i2), .val (.long ga), .second, .val (.int (im &&& (3 : Int32))), .val (.int (1 : Int32)), .val (.int (0 : Int32)), .val (.ref b1), .val (.long s0), .second, .val (.long f0), .second, .val (.long s1), .second, .val (.long f1), .second, .val (.long s2), .second, .unset, .unset, .unset, .unset, .unset, .unset, .unset, .unset] [(.int i2), (.long s2)])) _
    refine X31.ldcInt hx hown (mvT hZ (hw _ (List.mem_of_getElem? (i := 1) rfl))) (g := (mkF m 152 #[.val (.int im), .val (.int ib), .val (.int i0), .val (.int i1), .val (.int i2), .val (.long ga), .second, .val (.int (im &&& (3 : Int32))), .val (.int (1 : Int32)), .val (.int (0 : Int32)), .val (.ref b1), .val (.long s0), .second, .val (.long f0), .second, .val (.long s1), .second, .val (.long f1), .second, .val (.long s2), .second, .unset, .unset, .unset, .unset, .unset, .unset, .unset, .unset] [(.int i2), (.long s2)])) rfl (hb hby at_152) _ ?_
    refine XS.iand X31.here hx rfl (hb hby at_154) rfl ?_
    refine XS.i2l X31.here hx rfl (hb hby at_155) rfl ?_
    refine XS.ladd X31.here hx rfl (hb hby at_156) rfl ?_
    refine XS.lstore X31.here hx rfl (hb hby at_157) rfl (l' := #[.val (.int im), .val (.int ib), .val (.int i0), .val (.int i1), .val (.int i2), .val (.long ga), .second, .val (.int (im &&& (3 : Int32))), .val (.int (1 : Int32)), .val (.int (0 : Int32)), .val (.ref b1), .val (.long s0), .second, .val (.long f0), .second, .val (.long s1), .second, .val (.long f1), .second, .val (.long s2), .second, .val (.long (s2 + ((i2 &&& (2147483647 : Int32)).toInt64))), .second, .unset, .unset, .unset, .unset, .unset, .unset]) rfl ?_
    exact kt
  obtain ⟨f2, hf2⟩ : ∃ z : Int64, z = (s2 + ((i2 &&& (2147483647 : Int32)).toInt64)) := ⟨_, rfl⟩
  have k47 : ∀ tq, Steps p.tables e below (T31.setTop (mkF m 159 #[.val (.int im), .val (.int ib), .val (.int i0), .val (.int i1), .val (.int i2), .val (.long ga), .second, .val (.int (im &&& (3 : Int32))), .val (.int (1 : Int32)), .val (.int (0 : Int32)), .val (.ref b1), .val (.long s0), .second, .val (.long f0), .second, .val (.long s1), .second, .val (.long f1), .second, .val (.long s2), .second, .val (.long f2), .second, .unset, .unset, .unset, .unset, .unset, .unset] [])) tq → Steps p.tables e below (s₁.setTop (entryFrame m #[(.int im), (.int ib), (.int i0), (.int i1), (.int i2), (.long ga)] maxLocals)) tq := by
    intro tq kt
    subst hf2
    exact k46 tq kt
  subst hs0
  have ho := own_order hf0 hs1 hf1 hs2 hf2
  obtain ⟨T48, h48, k48, X48, e48, E48, A48, st48⟩ := newP X31 hx hZ (hw _ (List.mem_of_getElem? (i := 3) rfl)) e31 (g := (mkF m 160 #[.val (.int im), .val (.int ib), .val (.int i0), .val (.int i1), .val (.int i2), .val (.long ga), .second, .val (.int (im &&& (3 : Int32))), .val (.int (1 : Int32)), .val (.int (0 : Int32)), .val (.ref b1), .val (.long (ib.toInt64)), .second, .val (.long f0), .second, .val (.long s1), .second, .val (.long f1), .second, .val (.long s2), .second, .val (.long f2), .second, .unset, .unset, .unset, .unset, .unset, .unset] [(.int (3 : Int32))])) rfl (hb hby at_160) rfl (by decide) (cap := 3) (by decide) (by decide) (by decide) (by decide)
  obtain ⟨b48, g48⟩ : ∃ z, z = h31.size := ⟨_, rfl⟩
  rw [← g48] at A48 st48
  have ne_b1_b48 : b1 ≠ b48 := Nat.ne_of_lt (Nat.lt_of_lt_of_le v32.lt (Nat.le_of_eq g48.symm))
  have g_b48 : n0 ≤ b48 := Nat.le_trans z34 (Nat.le_of_eq g48.symm)
  have sz_b48 : h0.size ≤ b48 := Nat.le_trans kp33.1 (Nat.le_of_eq g48.symm)
  have f49 := v32.ext E48
  have z50 := Nat.le_trans z34 E48.1
  have kp51 := kp33.ext E48
  have V_b48 : Arv Z h48 b48 k48 .double (3 : Int32) [(.double (0 : UInt64)), (.double (0 : UInt64)), (.double (0 : UInt64))] (.double (0 : UInt64)) := (Arv.new A48 (by decide)).pad (pad_rep [] (.double (0 : UInt64)) 3)
  obtain ⟨T52, h52, k52, X52, e52, E52, A52, st52⟩ := newP X48 hx hZ (hw _ (List.mem_of_getElem? (i := 3) rfl)) e48 (g := (mkF m 165 #[.val (.int im), .val (.int ib), .val (.int i0), .val (.int i1), .val (.int i2), .val (.long ga), .second, .val (.int (im &&& (3 : Int32))), .val (.int (1 : Int32)), .val (.int (0 : Int32)), .val (.ref b1), .val (.long (ib.toInt64)), .second, .val (.long f0), .second, .val (.long s1), .second, .val (.long f1), .second, .val (.long s2), .second, .val (.long f2), .second, .val (.ref b48), .unset, .unset, .unset, .unset, .unset] [(.int (3 : Int32))])) rfl (hb hby at_165) rfl (by decide) (cap := 3) (by decide) (by decide) (by decide) (by decide)
  obtain ⟨b52, g52⟩ : ∃ z, z = h48.size := ⟨_, rfl⟩
  rw [← g52] at A52 st52
  have ne_b1_b52 : b1 ≠ b52 := Nat.ne_of_lt (Nat.lt_of_lt_of_le f49.lt (Nat.le_of_eq g52.symm))
  have ne_b48_b52 : b48 ≠ b52 := Nat.ne_of_lt (Nat.lt_of_lt_of_le V_b48.lt (Nat.le_of_eq g52.symm))
  have g_b52 : n0 ≤ b52 := Nat.le_trans z50 (Nat.le_of_eq g52.symm)
  have sz_b52 : h0.size ≤ b52 := Nat.le_trans kp51.1 (Nat.le_of_eq g52.symm)
  have f53 := f49.ext E52
  have f54 := V_b48.ext E52
  have z55 := Nat.le_trans z50 E52.1
  have kp56 := kp51.ext E52
  have V_b52 : Arv Z h52 b52 k52 .double (3 : Int32) [(.double (0 : UInt64)), (.double (0 : UInt64)), (.double (0 : UInt64))] (.double (0 : UInt64)) := (Arv.new A52 (by decide)).pad (pad_rep [] (.double (0 : UInt64)) 3)
  obtain ⟨T57, h57, k57, X57, e57, E57, A57, st57⟩ := newP X52 hx hZ (hw _ (List.mem_of_getElem? (i := 4) rfl)) e52 (g := (mkF m 170 #[.val (.int im), .val (.int ib), .val (.int i0), .val (.int i1), .val (.int i2), .val (.long ga), .second, .val (.int (im &&& (3 : Int32))), .val (.int (1 : Int32)), .val (.int (0 : Int32)), .val (.ref b1), .val (.long (ib.toInt64)), .second, .val (.long f0), .second, .val (.long s1), .second, .val (.long f1), .second, .val (.long s2), .second, .val (.long f2), .second, .val (.ref b48), .val (.ref b52), .unset, .unset, .unset, .unset] [(.int (3 : Int32))])) rfl (hb hby at_170) rfl (by decide) (cap := 3) (by decide) (by decide) (by decide) (by decide)
  obtain ⟨b57, g57⟩ : ∃ z, z = h52.size := ⟨_, rfl⟩
  rw [← g57] at A57 st57
  have ne_b1_b57 : b1 ≠ b57 := Nat.ne_of_lt (Nat.lt_of_lt_of_le f53.lt (Nat.le_of_eq g57.symm))
  have ne_b48_b57 : b48 ≠ b57 := Nat.ne_of_lt (Nat.lt_of_lt_of_le f54.lt (Nat.le_of_eq g57.symm))
  have ne_b52_b57 : b52 ≠ b57 := Nat.ne_of_lt (Nat.lt_of_lt_of_le V_b52.lt (Nat.le_of_eq g57.symm))
  have g_b57 : n0 ≤ b57 := Nat.le_trans z55 (Nat.le_of_eq g57.symm)
  have sz_b57 : h0.size ≤ b57 := Nat.le_trans kp56.1 (Nat.le_of_eq g57.symm)
  have f58 := f53.ext E57
  have f59 := f54.ext E57
  have f60 := V_b52.ext E57
  have z61 := Nat.le_trans z55 E57.1
  have kp62 := kp56.ext E57
  have V_b57 : Arv Z h57 b57 k57 .long (3 : Int32) [(.long (0 : Int64)), (.long (0 : Int64)), (.long (0 : Int64))] (.long (0 : Int64)) := (Arv.new A57 (by decide)).pad (pad_rep [] (.long (0 : Int64)) 3)
  obtain ⟨clq63, Arq63, cq63, Sq63, nq63, Hq63, Gq63⟩ := id f58
  have hiq63 : ¬ ((0 : Int32) < 0 ∨ clq63.slots.size ≤ ((0 : Int32)).toNatClampNeg) := inb_of Sq63 ⟨by decide, by decide⟩
  have haq63 : clq63.slots[((0 : Int32)).toNatClampNeg]? = some (.int (2 : Int32)) := Hq63.at hiq63 rfl
  obtain ⟨clq64, Arq64, cq64, Sq64, nq64, Hq64, Gq64⟩ := id f59
  have hiq64 : ¬ ((2 : Int32) < 0 ∨ clq64.slots.size ≤ ((2 : Int32)).toNatClampNeg) := inb_of Sq64 ⟨by decide, by decide⟩
  obtain ⟨T65, h65, X65, e65, W65, st65⟩ := stD X57 hx hZ e57 Arq64 (j := (2 : Int32)) hiq64 (g := (mkF m 183 #[.val (.int im), .val (.int ib), .val (.int i0), .val (.int i1), .val (.int i2), .val (.long ga), .second, .val (.int (im &&& (3 : Int32))), .val (.int (1 : Int32)), .val (.int (0 : Int32)), .val (.ref b1), .val (.long (ib.toInt64)), .second, .val (.long f0), .second, .val (.long s1), .second, .val (.long f1), .second, .val (.long s2), .second, .val (.long f2), .second, .val (.ref b48), .val (.ref b52), .val (.ref b57), .unset, .unset, .unset] [(.double (FP.l2d (ib.toInt64))), (.int (2 : Int32)), (.ref b48)])) rfl rfl (hb hby at_183)
  have v66 : Arv Z h65 b48 k48 .double (3 : Int32) [(.double (0 : UInt64)), (.double (0 : UInt64)), (.double (FP.l2d (ib.toInt64)))] (.double (0 : UInt64)) := Arv.set Arq64 cq64 Sq64 nq64 Hq64 Gq64 rfl W65 2 rfl (Nat.le_of_ble_eq_true rfl)
  have f67 := f58.other W65 ne_b1_b48
  have f68 := f60.other W65 (Ne.symm ne_b48_b52)
  have f69 := V_b57.other W65 (Ne.symm ne_b48_b57)
  have kp70 := kp62.wr W65 (Or.inr sz_b48)
  have z71 := Nat.le_trans z61 (Keep.of_wr W65).1
  have N72 := Fr.snoc X65 N35 g_b48
  obtain ⟨clq73, Arq73, cq73, Sq73, nq73, Hq73, Gq73⟩ := id f67
  have hiq73 : ¬ ((0 : Int32) < 0 ∨ clq73.slots.size ≤ ((0 : Int32)).toNatClampNeg) := inb_of Sq73 ⟨by decide, by decide⟩
  have haq73 : clq73.slots[((0 : Int32)).toNatClampNeg]? = some (.int (2 : Int32)) := Hq73.at hiq73 rfl
  obtain ⟨clq74, Arq74, cq74, Sq74, nq74, Hq74, Gq74⟩ := id f68
  have hiq74 : ¬ ((2 : Int32) < 0 ∨ clq74.slots.size ≤ ((2 : Int32)).toNatClampNeg) := inb_of Sq74 ⟨by decide, by decide⟩
  obtain ⟨T75, h75, X75, e75, W75, st75⟩ := stD X65 hx hZ e65 Arq74 (j := (2 : Int32)) hiq74 (g := (mkF m 193 #[.val (.int im), .val (.int ib), .val (.int i0), .val (.int i1), .val (.int i2), .val (.long ga), .second, .val (.int (im &&& (3 : Int32))), .val (.int (1 : Int32)), .val (.int (0 : Int32)), .val (.ref b1), .val (.long (ib.toInt64)), .second, .val (.long f0), .second, .val (.long s1), .second, .val (.long f1), .second, .val (.long s2), .second, .val (.long f2), .second, .val (.ref b48), .val (.ref b52), .val (.ref b57), .unset, .unset, .unset] [(.double (FP.l2d f0)), (.int (2 : Int32)), (.ref b52)])) rfl rfl (hb hby at_193)
  have v76 : Arv Z h75 b52 k52 .double (3 : Int32) [(.double (0 : UInt64)), (.double (0 : UInt64)), (.double (FP.l2d f0))] (.double (0 : UInt64)) := Arv.set Arq74 cq74 Sq74 nq74 Hq74 Gq74 rfl W75 2 rfl (Nat.le_of_ble_eq_true rfl)
  have f77 := f67.other W75 ne_b1_b52
  have f78 := f69.other W75 (Ne.symm ne_b52_b57)
  have f79 := v66.other W75 ne_b48_b52
  have kp80 := kp70.wr W75 (Or.inr sz_b52)
  have z81 := Nat.le_trans z71 (Keep.of_wr W75).1
  have N82 := Fr.snoc X75 N72 g_b52
  obtain ⟨clq83, Arq83, cq83, Sq83, nq83, Hq83, Gq83⟩ := id f77
  have hiq83 : ¬ ((0 : Int32) < 0 ∨ clq83.slots.size ≤ ((0 : Int32)).toNatClampNeg) := inb_of Sq83 ⟨by decide, by decide⟩
  have haq83 : clq83.slots[((0 : Int32)).toNatClampNeg]? = some (.int (2 : Int32)) := Hq83.at hiq83 rfl
  obtain ⟨clq84, Arq84, cq84, Sq84, nq84, Hq84, Gq84⟩ := id f78
  have hiq84 : ¬ ((2 : Int32) < 0 ∨ clq84.slots.size ≤ ((2 : Int32)).toNatClampNeg) := inb_of Sq84 ⟨by decide, by decide⟩
  obtain ⟨T85, h85, X85, e85, W85, st85⟩ := stJ X75 hx hZ e75 Arq84 (j := (2 : Int32)) hiq84 (g := (mkF m 202 #[.val (.int im), .val (.int ib), .val (.int i0), .val (.int i1), .val (.int i2), .val (.long ga), .second, .val (.int (im &&& (3 : Int32))), .val (.int (1 : Int32)), .val (.int (0 : Int32)), .val (.ref b1), .val (.long (ib.toInt64)), .second, .val (.long f0), .second, .val (.long s1), .second, .val (.long f1), .second, .val (.long s2), .second, .val (.long f2), .second, .val (.ref b48), .val (.ref b52), .val (.ref b57), .unset, .unset, .unset] [(.long f0), (.int (2 : Int32)), (.ref b57)])) rfl rfl (hb hby at_202)
  have v86 : Arv Z h85 b57 k57 .long (3 : Int32) [(.long (0 : Int64)), (.long (0 : Int64)), (.long f0)] (.long (0 : Int64)) := Arv.set Arq84 cq84 Sq84 nq84 Hq84 Gq84 rfl W85 2 rfl (Nat.le_of_ble_eq_true rfl)
  have f87 := f77.other W85 ne_b1_b57
  have f88 := f79.other W85 ne_b48_b57
  have f89 := v76.other W85 ne_b52_b57
  have kp90 := kp80.wr W85 (Or.inr sz_b57)
  have z91 := Nat.le_trans z81 (Keep.of_wr W85).1
  have N92 := Fr.snoc X85 N82 g_b57
  obtain ⟨clq93, Arq93, cq93, Sq93, nq93, Hq93, Gq93⟩ := id f87
  have hiq93 : ¬ ((1 : Int32) < 0 ∨ clq93.slots.size ≤ ((1 : Int32)).toNatClampNeg) := inb_of Sq93 ⟨by decide, by decide⟩
  have haq93 : clq93.slots[((1 : Int32)).toNatClampNeg]? = some (.int (0 : Int32)) := Hq93.at hiq93 rfl
  obtain ⟨clq94, Arq94, cq94, Sq94, nq94, Hq94, Gq94⟩ := id f88
  have hiq94 : ¬ ((0 : Int32) < 0 ∨ clq94.slots.size ≤ ((0 : Int32)).toNatClampNeg) := inb_of Sq94 ⟨by decide, by decide⟩
  obtain ⟨T95, h95, X95, e95, W95, st95⟩ := stD X85 hx hZ e85 Arq94 (j := (0 : Int32)) hiq94 (g := (mkF m 212 #[.val (.int im), .val (.int ib), .val (.int i0), .val (.int i1), .val (.int i2), .val (.long ga), .second, .val (.int (im &&& (3 : Int32))), .val (.int (1 : Int32)), .val (.int (0 : Int32)), .val (.ref b1), .val (.long (ib.toInt64)), .second, .val (.long f0), .second, .val (.long s1), .second, .val (.long f1), .second, .val (.long s2), .second, .val (.long f2), .second, .val (.ref b48), .val (.ref b52), .val (.ref b57), .unset, .unset, .unset] [(.double (FP.l2d s1)), (.int (0 : Int32)), (.ref b48)])) rfl rfl (hb hby at_212)
  have v96 : Arv Z h95 b48 k48 .double (3 : Int32) [(.double (FP.l2d s1)), (.double (0 : UInt64)), (.double (FP.l2d (ib.toInt64)))] (.double (0 : UInt64)) := Arv.set Arq94 cq94 Sq94 nq94 Hq94 Gq94 rfl W95 0 rfl (Nat.le_of_ble_eq_true rfl)
  have f97 := f87.other W95 ne_b1_b48
  have f98 := f89.other W95 (Ne.symm ne_b48_b52)
  have f99 := v86.other W95 (Ne.symm ne_b48_b57)
  have kp100 := kp90.wr W95 (Or.inr sz_b48)
  have z101 := Nat.le_trans z91 (Keep.of_wr W95).1
  have N102 := Fr.snoc X95 N92 g_b48
  obtain ⟨clq103, Arq103, cq103, Sq103, nq103, Hq103, Gq103⟩ := id f97
  have hiq103 : ¬ ((1 : Int32) < 0 ∨ clq103.slots.size ≤ ((1 : Int32)).toNatClampNeg) := inb_of Sq103 ⟨by decide, by decide⟩
  have haq103 : clq103.slots[((1 : Int32)).toNatClampNeg]? = some (.int (0 : Int32)) := Hq103.at hiq103 rfl
  obtain ⟨clq104, Arq104, cq104, Sq104, nq104, Hq104, Gq104⟩ := id f98
  have hiq104 : ¬ ((0 : Int32) < 0 ∨ clq104.slots.size ≤ ((0 : Int32)).toNatClampNeg) := inb_of Sq104 ⟨by decide, by decide⟩
  obtain ⟨T105, h105, X105, e105, W105, st105⟩ := stD X95 hx hZ e95 Arq104 (j := (0 : Int32)) hiq104 (g := (mkF m 222 #[.val (.int im), .val (.int ib), .val (.int i0), .val (.int i1), .val (.int i2), .val (.long ga), .second, .val (.int (im &&& (3 : Int32))), .val (.int (1 : Int32)), .val (.int (0 : Int32)), .val (.ref b1), .val (.long (ib.toInt64)), .second, .val (.long f0), .second, .val (.long s1), .second, .val (.long f1), .second, .val (.long s2), .second, .val (.long f2), .second, .val (.ref b48), .val (.ref b52), .val (.ref b57), .unset, .unset, .unset] [(.double (FP.l2d f1)), (.int (0 : Int32)), (.ref b52)])) rfl rfl (hb hby at_222)
  have v106 : Arv Z h105 b52 k52 .double (3 : Int32) [(.double (FP.l2d f1)), (.double (0 : UInt64)), (.double (FP.l2d f0))] (.double (0 : UInt64)) := Arv.set Arq104 cq104 Sq104 nq104 Hq104 Gq104 rfl W105 0 rfl (Nat.le_of_ble_eq_true rfl)
  have f107 := f97.other W105 ne_b1_b52
  have f108 := f99.other W105 (Ne.symm ne_b52_b57)
  have f109 := v96.other W105 ne_b48_b52
  have kp110 := kp100.wr W105 (Or.inr sz_b52)
  have z111 := Nat.le_trans z101 (Keep.of_wr W105).1
  have N112 := Fr.snoc X105 N102 g_b52
  obtain ⟨clq113, Arq113, cq113, Sq113, nq113, Hq113, Gq113⟩ := id f107
  have hiq113 : ¬ ((1 : Int32) < 0 ∨ clq113.slots.size ≤ ((1 : Int32)).toNatClampNeg) := inb_of Sq113 ⟨by decide, by decide⟩
  have haq113 : clq113.slots[((1 : Int32)).toNatClampNeg]? = some (.int (0 : Int32)) := Hq113.at hiq113 rfl
  obtain ⟨clq114, Arq114, cq114, Sq114, nq114, Hq114, Gq114⟩ := id f108
  have hiq114 : ¬ ((0 : Int32) < 0 ∨ clq114.slots.size ≤ ((0 : Int32)).toNatClampNeg) := inb_of Sq114 ⟨by decide, by decide⟩
  obtain ⟨T115, h115, X115, e115, W115, st115⟩ := stJ X105 hx hZ e105 Arq114 (j := (0 : Int32)) hiq114 (g := (mkF m 231 #[.val (.int im), .val (.int ib), .val (.int i0), .val (.int i1), .val (.int i2), .val (.long ga), .second, .val (.int (im &&& (3 : Int32))), .val (.int (1 : Int32)), .val (.int (0 : Int32)), .val (.ref b1), .val (.long (ib.toInt64)), .second, .val (.long f0), .second, .val (.long s1), .second, .val (.long f1), .second, .val (.long s2), .second, .val (.long f2), .second, .val (.ref b48), .val (.ref b52), .val (.ref b57), .unset, .unset, .unset] [(.long f1), (.int (0 : Int32)), (.ref b57)])) rfl rfl (hb hby at_231)
  have v116 : Arv Z h115 b57 k57 .long (3 : Int32) [(.long f1), (.long (0 : Int64)), (.long f0)] (.long (0 : Int64)) := Arv.set Arq114 cq114 Sq114 nq114 Hq114 Gq114 rfl W115 0 rfl (Nat.le_of_ble_eq_true rfl)
  have f117 := f107.other W115 ne_b1_b57
  have f118 := f109.other W115 ne_b48_b57
  have f119 := v106.other W115 ne_b52_b57
  have kp120 := kp110.wr W115 (Or.inr sz_b57)
  have z121 := Nat.le_trans z111 (Keep.of_wr W115).1
  have N122 := Fr.snoc X115 N112 g_b57
  obtain ⟨clq123, Arq123, cq123, Sq123, nq123, Hq123, Gq123⟩ := id f117
  have hiq123 : ¬ ((2 : Int32) < 0 ∨ clq123.slots.size ≤ ((2 : Int32)).toNatClampNeg) := inb_of Sq123 ⟨by decide, by decide⟩
  have haq123 : clq123.slots[((2 : Int32)).toNatClampNeg]? = some (.int (1 : Int32)) := Hq123.at hiq123 rfl
  obtain ⟨clq124, Arq124, cq124, Sq124, nq124, Hq124, Gq124⟩ := id f118
  have hiq124 : ¬ ((1 : Int32) < 0 ∨ clq124.slots.size ≤ ((1 : Int32)).toNatClampNeg) := inb_of Sq124 ⟨by decide, by decide⟩
  obtain ⟨T125, h125, X125, e125, W125, st125⟩ := stD X115 hx hZ e115 Arq124 (j := (1 : Int32)) hiq124 (g := (mkF m 241 #[.val (.int im), .val (.int ib), .val (.int i0), .val (.int i1), .val (.int i2), .val (.long ga), .second, .val (.int (im &&& (3 : Int32))), .val (.int (1 : Int32)), .val (.int (0 : Int32)), .val (.ref b1), .val (.long (ib.toInt64)), .second, .val (.long f0), .second, .val (.long s1), .second, .val (.long f1), .second, .val (.long s2), .second, .val (.long f2), .second, .val (.ref b48), .val (.ref b52), .val (.ref b57), .unset, .unset, .unset] [(.double (FP.l2d s2)), (.int (1 : Int32)), (.ref b48)])) rfl rfl (hb hby at_241)
  have v126 : Arv Z h125 b48 k48 .double (3 : Int32) [(.double (FP.l2d s1)), (.double (FP.l2d s2)), (.double (FP.l2d (ib.toInt64)))] (.double (0 : UInt64)) := Arv.set Arq124 cq124 Sq124 nq124 Hq124 Gq124 rfl W125 1 rfl (Nat.le_of_ble_eq_true rfl)
  have f127 := f117.other W125 ne_b1_b48
  have f128 := f119.other W125 (Ne.symm ne_b48_b52)
  have f129 := v116.other W125 (Ne.symm ne_b48_b57)
  have kp130 := kp120.wr W125 (Or.inr sz_b48)
  have z131 := Nat.le_trans z121 (Keep.of_wr W125).1
  have N132 := Fr.snoc X125 N122 g_b48
  obtain ⟨clq133, Arq133, cq133, Sq133, nq133, Hq133, Gq133⟩ := id f127
  have hiq133 : ¬ ((2 : Int32) < 0 ∨ clq133.slots.size ≤ ((2 : Int32)).toNatClampNeg) := inb_of Sq133 ⟨by decide, by decide⟩
  have haq133 : clq133.slots[((2 : Int32)).toNatClampNeg]? = some (.int (1 : Int32)) := Hq133.at hiq133 rfl
  obtain ⟨clq134, Arq134, cq134, Sq134, nq134, Hq134, Gq134⟩ := id f128
  have hiq134 : ¬ ((1 : Int32) < 0 ∨ clq134.slots.size ≤ ((1 : Int32)).toNatClampNeg) := inb_of Sq134 ⟨by decide, by decide⟩
  obtain ⟨T135, h135, X135, e135, W135, st135⟩ := stD X125 hx hZ e125 Arq134 (j := (1 : Int32)) hiq134 (g := (mkF m 251 #[.val (.int im), .val (.int ib), .val (.int i0), .val (.int i1), .val (.int i2), .val (.long ga), .second, .val (.int (im &&& (3 : Int32))), .val (.int (1 : Int32)), .val (.int (0 : Int32)), .val (.ref b1), .val (.long (ib.toInt64)), .second, .val (.long f0), .second, .val (.long s1), .second, .val (.long f1), .second, .val (.long s2), .second, .val (.long f2), .second, .val (.ref b48), .val (.ref b52), .val (.ref b57), .unset, .unset, .unset] [(.double (FP.l2d f2)), (.int (1 : Int32)), (.ref b52)])) rfl rfl (hb hby at_251)
  have v136 : Arv Z h135 b52 k52 .double (3 : Int32) [(.double (FP.l2d f1)), (.double (FP.l2d f2)), (.double (FP.l2d f0))] (.double (0 : UInt64)) := Arv.set Arq134 cq134 Sq134 nq134 Hq134 Gq134 rfl W135 1 rfl (Nat.le_of_ble_eq_true rfl)
  have f137 := f127.other W135 ne_b1_b52
  have f138 := f129.other W135 (Ne.symm ne_b52_b57)
  have f139 := v126.other W135 ne_b48_b52
  have kp140 := kp130.wr W135 (Or.inr sz_b52)
  have z141 := Nat.le_trans z131 (Keep.of_wr W135).1
  have N142 := Fr.snoc X135 N132 g_b52
  obtain ⟨clq143, Arq143, cq143, Sq143, nq143, Hq143, Gq143⟩ := id f137
  have hiq143 : ¬ ((2 : Int32) < 0 ∨ clq143.slots.size ≤ ((2 : Int32)).toNatClampNeg) := inb_of Sq143 ⟨by decide, by decide⟩
  have haq143 : clq143.slots[((2 : Int32)).toNatClampNeg]? = some (.int (1 : Int32)) := Hq143.at hiq143 rfl
  obtain ⟨clq144, Arq144, cq144, Sq144, nq144, Hq144, Gq144⟩ := id f138
  have hiq144 : ¬ ((1 : Int32) < 0 ∨ clq144.slots.size ≤ ((1 : Int32)).toNatClampNeg) := inb_of Sq144 ⟨by decide, by decide⟩
  obtain ⟨T145, h145, X145, e145, W145, st145⟩ := stJ X135 hx hZ e135 Arq144 (j := (1 : Int32)) hiq144 (g := (mkF m 260 #[.val (.int im), .val (.int ib), .val (.int i0), .val (.int i1), .val (.int i2), .val (.long ga), .second, .val (.int (im &&& (3 : Int32))), .val (.int (1 : Int32)), .val (.int (0 : Int32)), .val (.ref b1), .val (.long (ib.toInt64)), .second, .val (.long f0), .second, .val (.long s1), .second, .val (.long f1), .second, .val (.long s2), .second, .val (.long f2), .second, .val (.ref b48), .val (.ref b52), .val (.ref b57), .unset, .unset, .unset] [(.long f2), (.int (1 : Int32)), (.ref b57)])) rfl rfl (hb hby at_260)
  have v146 : Arv Z h145 b57 k57 .long (3 : Int32) [(.long f1), (.long f2), (.long f0)] (.long (0 : Int64)) := Arv.set Arq144 cq144 Sq144 nq144 Hq144 Gq144 rfl W145 1 rfl (Nat.le_of_ble_eq_true rfl)
  have f147 := f137.other W145 ne_b1_b57
  have f148 := f139.other W145 ne_b48_b57
  have f149 := v136.other W145 ne_b52_b57
  have kp150 := kp140.wr W145 (Or.inr sz_b57)
  have z151 := Nat.le_trans z141 (Keep.of_wr W145).1
  have N152 := Fr.snoc X145 N142 g_b57
  obtain ⟨T153, h153, X153, e153, E153, A153, D153, U153, st153⟩ := newO X145 hx hZ hown (hw _ (List.mem_of_getElem? (i := 5) rfl)) (hw _ (List.mem_of_getElem? (i := 6) rfl)) (hw _ (List.mem_of_getElem? (i := 7) rfl)) e145 (g := (mkF m 261 #[.val (.int im), .val (.int ib), .val (.int i0), .val (.int i1), .val (.int i2), .val (.long ga), .second, .val (.int (im &&& (3 : Int32))), .val (.int (1 : Int32)), .val (.int (0 : Int32)), .val (.ref b1), .val (.long (ib.toInt64)), .second, .val (.long f0), .second, .val (.long s1), .second, .val (.long f1), .second, .val (.long s2), .second, .val (.long f2), .second, .val (.ref b48), .val (.ref b52), .val (.ref b57), .unset, .unset, .unset] [])) rfl (hb hby at_261) (by decide) (by decide)
  obtain ⟨b153, g153⟩ : ∃ z, z = h145.size := ⟨_, rfl⟩
  rw [← g153] at A153 D153 U153 st153
  have ne_b1_b153 : b1 ≠ b153 := Nat.ne_of_lt (Nat.lt_of_lt_of_le f147.lt (Nat.le_of_eq g153.symm))
  have ne_b48_b153 : b48 ≠ b153 := Nat.ne_of_lt (Nat.lt_of_lt_of_le f148.lt (Nat.le_of_eq g153.symm))
  have ne_b52_b153 : b52 ≠ b153 := Nat.ne_of_lt (Nat.lt_of_lt_of_le f149.lt (Nat.le_of_eq g153.symm))
  have ne_b57_b153 : b57 ≠ b153 := Nat.ne_of_lt (Nat.lt_of_lt_of_le v146.lt (Nat.le_of_eq g153.symm))
  have g_b153 : n0 ≤ b153 := Nat.le_trans z151 (Nat.le_of_eq g153.symm)
  have sz_b153 : h0.size ≤ b153 := Nat.le_trans kp150.1 (Nat.le_of_eq g153.symm)
  have f154 := f147.ext E153
  have f155 := f148.ext E153
  have f156 := f149.ext E153
  have f157 := v146.ext E153
  have z158 := Nat.le_trans z151 E153.1
  have kp159 := kp150.ext E153
  have F_tasks_b153 : Fld Z h153 b153 "com/example/makespun/makespun/simulate/Timeline" "tasks" "[I" .null := D153 (Or.inl (hw _ (List.mem_of_getElem? (i := 15) rfl))) (ty := (.array .int)) (by decide)
  have F_starts_b153 : Fld Z h153 b153 "com/example/makespun/makespun/simulate/Timeline" "starts" "[D" .null := D153 (Or.inr (hw _ (List.mem_of_getElem? (i := 17) rfl))) (ty := (.array .double)) (by decide)
  have F_finishes_b153 : Fld Z h153 b153 "com/example/makespun/makespun/simulate/Timeline" "finishes" "[D" .null := D153 (Or.inr (hw _ (List.mem_of_getElem? (i := 19) rfl))) (ty := (.array .double)) (by decide)
  have F_size_b153 : Fld Z h153 b153 "com/example/makespun/makespun/simulate/Timeline" "size" "I" (.int (0 : Int32)) := D153 (Or.inl (hw _ (List.mem_of_getElem? (i := 26) rfl))) (ty := .int) (by decide)
  have F_idleIntervals_b153 : Fld Z h153 b153 "com/example/makespun/makespun/simulate/Timeline" "idleIntervals" "Ljava/util/NavigableMap;" .null := D153 (Or.inl (hw _ (List.mem_of_getElem? (i := 33) rfl))) (ty := (.object "java/util/NavigableMap")) (by decide)
  obtain ⟨_, _, ⟨T160, L160, k160, n160⟩, -, X160, ⟨Lc160, hQ160, l160, y160, z160⟩, st160⟩ := X153.specialBack hx (y := (⟨"com/example/makespun/makespun/simulate/Timeline", "<init>", "([D[D)V"⟩ : MethodName)) rfl hown (mvT hZ (hw _ (List.mem_of_getElem? (i := 8) rfl))) (mvT hZ (hw _ (List.mem_of_getElem? (i := 9) rfl))) (mvT hZ (hw _ (List.mem_of_getElem? (i := 10) rfl))) (by decide) (backOf (W := 1) (rmI l Z a0 hw [] b153 b48 b52 h153 n0 z158 A153 F_tasks_b153 F_starts_b153 F_finishes_b153 F_size_b153 F_idleIntervals_b153 g_b153) hZ (hw _ (List.mem_of_getElem? (i := 10) rfl)) (hw _ (List.mem_of_getElem? (i := 7) rfl)) (by decide) (by decide)) (g := (mkF m 269 #[.val (.int im), .val (.int ib), .val (.int i0), .val (.int i1), .val (.int i2), .val (.long ga), .second, .val (.int (im &&& (3 : Int32))), .val (.int (1 : Int32)), .val (.int (0 : Int32)), .val (.ref b1), .val (.long (ib.toInt64)), .second, .val (.long f0), .second, .val (.long s1), .second, .val (.long f1), .second, .val (.long s2), .second, .val (.long f2), .second, .val (.ref b48), .val (.ref b52), .val (.ref b57), .unset, .unset, .unset] [(.ref b52), (.ref b48), (.ref b153), (.ref b153)])) rfl (by rw [hml]; rfl) (Steps.refl _) (a := b153) (argsL := [(.ref b48), (.ref b52)]) (rest := [(.ref b153)]) (lenOf pd_0 rfl) rfl (by show 2 * 0 + _ ≤ _; exact Nat.le_of_eq rfl) (hb hby at_269) (fun _ _ => ⟨rfl, e153, (by decide : 5 + 1 ≤ _), (by decide : 17 + 4 ≤ _)⟩)
  dsimp only [Pt.U, Pt.locs, Pt.cells, Pt.slots] at X160 l160 y160 z160 st160 hQ160
  replace X160 := own_cast X160 l160 y160 z160
  obtain ⟨bt160, kb160, hv160, N160q, K160, gb160, Eo160, Ft160, Fs160, Ff160, Fi160, Vt160⟩ := hQ160
  rw [hv160] at st160
  have N160 := Fr.app N152 N160q
  have ne_b1_bt160 : b1 ≠ bt160 := Nat.ne_of_lt (Nat.lt_of_lt_of_le f154.lt gb160)
  have ne_b48_bt160 : b48 ≠ bt160 := Nat.ne_of_lt (Nat.lt_of_lt_of_le f155.lt gb160)
  have ne_b52_bt160 : b52 ≠ bt160 := Nat.ne_of_lt (Nat.lt_of_lt_of_le f156.lt gb160)
  have ne_b57_bt160 : b57 ≠ bt160 := Nat.ne_of_lt (Nat.lt_of_lt_of_le f157.lt gb160)
  have ne_b153_bt160 : b153 ≠ bt160 := Nat.ne_of_lt (Nat.lt_of_lt_of_le A153.lt gb160)
  have g_bt160 : n0 ≤ bt160 := Nat.le_trans z158 gb160
  have sz_bt160 : h0.size ≤ bt160 := Nat.le_trans kp159.1 gb160
  have f161 := f154.keep K160 (ninS ne_b1_b153 nin0)
  have f162 := f155.keep K160 (ninS ne_b48_b153 nin0)
  have f163 := f156.keep K160 (ninS ne_b52_b153 nin0)
  have f164 := f157.keep K160 (ninS ne_b57_b153 nin0)
  have f165 := A153.keep K160
  have z166 := Nat.le_trans z158 K160.1
  have kp167 := Keep.trans kp159 K160 (allS (Or.inr sz_b153) all0)
  have k168 : ∀ tq, Steps p.tables e below (T160.setTop (mkF m 274 #[.val (.int im), .val (.int ib), .val (.int i0), .val (.int i1), .val (.int i2), .val (.long ga), .second, .val (.int (im &&& (3 : Int32))), .val (.int (1 : Int32)), .val (.int (0 : Int32)), .val (.ref b1), .val (.long (ib.toInt64)), .second, .val (.long f0), .second, .val (.long s1), .second, .val (.long f1), .second, .val (.long s2), .second, .val (.long f2), .second, .val (.ref b48), .val (.ref b52), .val (.ref b57), .val (.ref b153), .unset, .unset] [])) tq → Steps p.tables e below (s₁.setTop (entryFrame m #[(.int im), (.int ib), (.int i0), (.int i1), (.int i2), (.long ga)] maxLocals)) tq := by
    intro tq kt
    refine k47 tq ?_
    show Steps p.tables e below (T31.setTop (mkF m 159 #[.val (.int im), .val (.int ib), .val (.int i0), .val (.int i1), .val (.int i2), .val (.long ga), .second, .val (.int (im &&& (3 : Int32))), .val (.int (1 : Int32)), .val (.int (0 : Int32)), .val (.ref b1), .val (.long (ib.toInt64)), .second, .val (.long f0), .second, .val (.long s1), .second, .val (.long f1), .second, .val (.long s2), .second, .val (.long f2), .second, .unset, .unset, .unset, .unset, .unset, .unset] [])) _
    refine XS.iconst X31.here hx rfl (hb hby at_159) ?_
    refine st48 _ ?_
    refine XS.astore X48.here hx rfl (hb hby at_162) rfl rfl (l' := #[.val (.int im), .val (.int ib), .val (.int i0), .val (.int i1), .val (.int i2), .val (.long ga), .second, .val (.int (im &&& (3 : Int32))), .val (.int (1 : Int32)), .val (.int (0 : Int32)), .val (.ref b1), .val (.long (ib.toInt64)), .second, .val (.long f0), .second, .val (.long s1), .second, .val (.long f1), .second, .val (.long s2), .second, .val (.long f2), .second, .val (.ref b48), .unset, .unset, .unset, .unset, .unset]) rfl ?_
    refine XS.iconst X48.here hx rfl (hb hby at_164) ?_
    refine st52 _ ?_
    refine XS.astore X52.here hx rfl (hb hby at_167) rfl rfl (l' := #[.val (.int im), .val (.int ib), .val (.int i0), .val (.int i1), .val (.int i2), .val (.long ga), .second, .val (.int (im &&& (3 : Int32))), .val (.int (1 : Int32)), .val (.int (0 : Int32)), .val (.ref b1), .val (.long (ib.toInt64)), .second, .val (.long f0), .second, .val (.long s1), .second, .val (.long f1), .second, .val (.long s2), .second, .val (.long f2), .second, .val (.ref b48), .val (.ref b52), .unset, .unset, .unset, .unset]) rfl ?_
    show Steps p.tables e below (T52.setTop (mkF m 169 #[.val (.int im), .val (.int ib), .val (.int i0), .val (.int i1), .val (.int i2), .val (.long ga), .second, .val (.int (im &&& (3 : Int32))), .val (.int (1 : Int32)), .val (.int (0 : Int32)), .val (.ref b1), .val (.long (ib.toInt64)), .second, .val (.long f0), .second, .val (.long s1), .second, .val (.long f1), .second, .val (.long s2), .second, .val (.long f2), .second, .val (.ref b48), .val (.ref b52), .unset, .unset, .unset, .unset] [])) _
    refine XS.iconst X52.here hx rfl (hb hby at_169) ?_
    refine st57 _ ?_
    refine XS.astore X57.here hx rfl (hb hby at_172) rfl rfl (l' := #[.val (.int im), .val (.int ib), .val (.int i0), .val (.int i1), .val (.int i2), .val (.long ga), .second, .val (.int (im &&& (3 : Int32))), .val (.int (1 : Int32)), .val (.int (0 : Int32)), .val (.ref b1), .val (.long (ib.toInt64)), .second, .val (.long f0), .second, .val (.long s1), .second, .val (.long f1), .second, .val (.long s2), .second, .val (.long f2), .second, .val (.ref b48), .val (.ref b52), .val (.ref b57), .unset, .unset, .unset]) rfl ?_
    refine XS.aload X57.here hx rfl (hb hby at_174) rfl rfl ?_
    refine XS.aload X57.here hx rfl (hb hby at_176) rfl rfl ?_
    refine XS.iconst X57.here hx rfl (hb hby at_178) ?_
    show Steps p.tables e below (T57.setTop (mkF m 179 #[.val (.int im), .val (.int ib), .val (.int i0), .val (.int i1), .val (.int i2), .val (.long ga), .second, .val (.int (im &&& (3 : Int32))), .val (.int (1 : Int32)), .val (.int (0 : Int32)), .val (.ref b1), .val (.long (ib.toInt64)), .second, .val (.long f0), .second, .val (.long s1), .second, .val (.long f1), .second, .val (.long s2), .second, .val (.long f2), .second, .val (.ref b48), .val (.ref b52), .val (.ref b57), .unset, .unset, .unset] [(.int (0 : Int32)), (.ref b1), (.ref b48)])) _
    refine X57.iaload hx (j := (0 : Int32)) (v := (.int (2 : Int32))) (by rw [e57]; exact Arq63.1) (State.isArrayOf_alike hZ.alike Arq63.2.1) Arq63.2.2 hiq63 haq63 (g := (mkF m 179 #[.val (.int im), .val (.int ib), .val (.int i0), .val (.int i1), .val (.int i2), .val (.long ga), .second, .val (.int (im &&& (3 : Int32))), .val (.int (1 : Int32)), .val (.int (0 : Int32)), .val (.ref b1), .val (.long (ib.toInt64)), .second, .val (.long f0), .second, .val (.long s1), .second, .val (.long f1), .second, .val (.long s2), .second, .val (.long f2), .second, .val (.ref b48), .val (.ref b52), .val (.ref b57), .unset, .unset, .unset] [(.int (0 : Int32)), (.ref b1), (.ref b48)])) rfl rfl (hb hby at_179) _ ?_
    refine XS.lload X57.here hx rfl (hb hby at_180) rfl ?_
    show Steps p.tables e below (T57.setTop (mkF m 182 #[.val (.int im), .val (.int ib), .val (.int i0), .val (.int i1), .val (.int i2), .val (.long ga), .second, .val (.int (im &&& (3 : Int32))), .val (.int (1 : Int32)), .val (.int (0 : Int32)), .val (.ref b1), .val (.long (ib.toInt64)), .second, .val (.long f0), .second, .val (.long s1), .second, .val (.long f1), .second, .val (.long s2), .second, .val (.long f2), .second, .val (.ref b48), .val (.ref b52), .val (.ref b57), .unset, .unset, .unset] [(.long (ib.toInt64)), (.int (2 : Int32)), (.ref b48)])) _
    refine XS.l2dS X57.here hx rfl (hb hby at_182) rfl rfl ?_
    refine st65 _ ?_
    refine XS.aload X65.here hx rfl (hb hby at_184) rfl rfl ?_
    refine XS.aload X65.here hx rfl (hb hby at_186) rfl rfl ?_
    show Steps p.tables e below (T65.setTop (mkF m 188 #[.val (.int im), .val (.int ib), .val (.int i0), .val (.int i1), .val (.int i2), .val (.long ga), .second, .val (.int (im &&& (3 : Int32))), .val (.int (1 : Int32)), .val (.int (0 : Int32)), .val (.ref b1), .val (.long (ib.toInt64)), .second, .val (.long f0), .second, .val (.long s1), .second, .val (.long f1), .second, .val (.long s2), .second, .val (.long f2), .second, .val (.ref b48), .val (.ref b52), .val (.ref b57), .unset, .unset, .unset] [(.ref b1), (.ref b52)])) _
    refine XS.iconst X65.here hx rfl (hb hby at_188) ?_
    refine X65.iaload hx (j := (0 : Int32)) (v := (.int (2 : Int32))) (by rw [e65]; exact Arq73.1) (State.isArrayOf_alike hZ.alike Arq73.2.1) Arq73.2.2 hiq73 haq73 (g := (mkF m 189 #[.val (.int im), .val (.int ib), .val (.int i0), .val (.int i1), .val (.int i2), .val (.long ga), .second, .val (.int (im &&& (3 : Int32))), .val (.int (1 : Int32)), .val (.int (0 : Int32)), .val (.ref b1), .val (.long (ib.toInt64)), .second, .val (.long f0), .second, .val (.long s1), .second, .val (.long f1), .second, .val (.long s2), .second, .val (.long f2), .second, .val (.ref b48), .val (.ref b52), .val (.ref b57), .unset, .unset, .unset] [(.int (0 : Int32)), (.ref b1), (.ref b52)])) rfl rfl (hb hby at_189) _ ?_
    refine XS.lload X65.here hx rfl (hb hby at_190) rfl ?_
    show Steps p.tables e below (T65.setTop (mkF m 192 #[.val (.int im), .val (.int ib), .val (.int i0), .val (.int i1), .val (.int i2), .val (.long ga), .second, .val (.int (im &&& (3 : Int32))), .val (.int (1 : Int32)), .val (.int (0 : Int32)), .val (.ref b1), .val (.long (ib.toInt64)), .second, .val (.long f0), .second, .val (.long s1), .second, .val (.long f1), .second, .val (.long s2), .second, .val (.long f2), .second, .val (.ref b48), .val (.ref b52), .val (.ref b57), .unset, .unset, .unset] [(.long f0), (.int (2 : Int32)), (.ref b52)])) _
    refine XS.l2dS X65.here hx rfl (hb hby at_192) rfl rfl ?_
    refine st75 _ ?_
    refine XS.aload X75.here hx rfl (hb hby at_194) rfl rfl ?_
    show Steps p.tables e below (T75.setTop (mkF m 196 #[.val (.int im), .val (.int ib), .val (.int i0), .val (.int i1), .val (.int i2), .val (.long ga), .second, .val (.int (im &&& (3 : Int32))), .val (.int (1 : Int32)), .val (.int (0 : Int32)), .val (.ref b1), .val (.long (ib.toInt64)), .second, .val (.long f0), .second, .val (.long s1), .second, .val (.long f1), .second, .val (.long s2), .second, .val (.long f2), .second, .val (.ref b48), .val (.ref b52), .val (.ref b57), .unset, .unset, .unset] [(.ref b57)])) _
    refine XS.aload X75.here hx rfl (hb hby at_196) rfl rfl ?_
    refine XS.iconst X75.here hx rfl (hb hby at_198) ?_
    refine X75.iaload hx (j := (0 : Int32)) (v := (.int (2 : Int32))) (by rw [e75]; exact Arq83.1) (State.isArrayOf_alike hZ.alike Arq83.2.1) Arq83.2.2 hiq83 haq83 (g := (mkF m 199 #[.val (.int im), .val (.int ib), .val (.int i0), .val (.int i1), .val (.int i2), .val (.long ga), .second, .val (.int (im &&& (3 : Int32))), .val (.int (1 : Int32)), .val (.int (0 : Int32)), .val (.ref b1), .val (.long (ib.toInt64)), .second, .val (.long f0), .second, .val (.long s1), .second, .val (.long f1), .second, .val (.long s2), .second, .val (.long f2), .second, .val (.ref b48), .val (.ref b52), .val (.ref b57), .unset, .unset, .unset] [(.int (0 : Int32)), (.ref b1), (.ref b57)])) rfl rfl (hb hby at_199) _ ?_
    refine XS.lload X75.here hx rfl (hb hby at_200) rfl ?_
    refine st85 _ ?_
    refine XS.aload X85.here hx rfl (hb hby at_203) rfl rfl ?_
    show Steps p.tables e below (T85.setTop (mkF m 205 #[.val (.int im), .val (.int ib), .val (.int i0), .val (.int i1), .val (.int i2), .val (.long ga), .second, .val (.int (im &&& (3 : Int32))), .val (.int (1 : Int32)), .val (.int (0 : Int32)), .val (.ref b1), .val (.long (ib.toInt64)), .second, .val (.long f0), .second, .val (.long s1), .second, .val (.long f1), .second, .val (.long s2), .second, .val (.long f2), .second, .val (.ref b48), .val (.ref b52), .val (.ref b57), .unset, .unset, .unset] [(.ref b48)])) _
    refine XS.aload X85.here hx rfl (hb hby at_205) rfl rfl ?_
    refine XS.iconst X85.here hx rfl (hb hby at_207) ?_
    refine X85.iaload hx (j := (1 : Int32)) (v := (.int (0 : Int32))) (by rw [e85]; exact Arq93.1) (State.isArrayOf_alike hZ.alike Arq93.2.1) Arq93.2.2 hiq93 haq93 (g := (mkF m 208 #[.val (.int im), .val (.int ib), .val (.int i0), .val (.int i1), .val (.int i2), .val (.long ga), .second, .val (.int (im &&& (3 : Int32))), .val (.int (1 : Int32)), .val (.int (0 : Int32)), .val (.ref b1), .val (.long (ib.toInt64)), .second, .val (.long f0), .second, .val (.long s1), .second, .val (.long f1), .second, .val (.long s2), .second, .val (.long f2), .second, .val (.ref b48), .val (.ref b52), .val (.ref b57), .unset, .unset, .unset] [(.int (1 : Int32)), (.ref b1), (.ref b48)])) rfl rfl (hb hby at_208) _ ?_
    refine XS.lload X85.here hx rfl (hb hby at_209) rfl ?_
    show Steps p.tables e below (T85.setTop (mkF m 211 #[.val (.int im), .val (.int ib), .val (.int i0), .val (.int i1), .val (.int i2), .val (.long ga), .second, .val (.int (im &&& (3 : Int32))), .val (.int (1 : Int32)), .val (.int (0 : Int32)), .val (.ref b1), .val (.long (ib.toInt64)), .second, .val (.long f0), .second, .val (.long s1), .second, .val (.long f1), .second, .val (.long s2), .second, .val (.long f2), .second, .val (.ref b48), .val (.ref b52), .val (.ref b57), .unset, .unset, .unset] [(.long s1), (.int (0 : Int32)), (.ref b48)])) _
    refine XS.l2dS X85.here hx rfl (hb hby at_211) rfl rfl ?_
    refine st95 _ ?_
    show Steps p.tables e below (T95.setTop (mkF m 213 #[.val (.int im), .val (.int ib), .val (.int i0), .val (.int i1), .val (.int i2), .val (.long ga), .second, .val (.int (im &&& (3 : Int32))), .val (.int (1 : Int32)), .val (.int (0 : Int32)), .val (.ref b1), .val (.long (ib.toInt64)), .second, .val (.long f0), .second, .val (.long s1), .second, .val (.long f1), .second, .val (.long s2), .second, .val (.long f2), .second, .val (.ref b48), .val (.ref b52), .val (.ref b57), .unset, .unset, .unset] [])) _
    refine XS.aload X95.here hx rfl (hb hby at_213) rfl rfl ?_
    refine XS.aload X95.here hx rfl (hb hby at_215) rfl rfl ?_
    refine XS.iconst X95.here hx rfl (hb hby at_217) ?_
    refine X95.iaload hx (j := (1 : Int32)) (v := (.int (0 : Int32))) (by rw [e95]; exact Arq103.1) (State.isArrayOf_alike hZ.alike Arq103.2.1) Arq103.2.2 hiq103 haq103 (g := (mkF m 218 #[.val (.int im), .val (.int ib), .val (.int i0), .val (.int i1), .val (.int i2), .val (.long ga), .second, .val (.int (im &&& (3 : Int32))), .val (.int (1 : Int32)), .val (.int (0 : Int32)), .val (.ref b1), .val (.long (ib.toInt64)), .second, .val (.long f0), .second, .val (.long s1), .second, .val (.long f1), .second, .val (.long s2), .second, .val (.long f2), .second, .val (.ref b48), .val (.ref b52), .val (.ref b57), .unset, .unset, .unset] [(.int (1 : Int32)), (.ref b1), (.ref b52)])) rfl rfl (hb hby at_218) _ ?_
    refine XS.lload X95.here hx rfl (hb hby at_219) rfl ?_
    show Steps p.tables e below (T95.setTop (mkF m 221 #[.val (.int im), .val (.int ib), .val (.int i0), .val (.int i1), .val (.int i2), .val (.long ga), .second, .val (.int (im &&& (3 : Int32))), .val (.int (1 : Int32)), .val (.int (0 : Int32)), .val (.ref b1), .val (.long (ib.toInt64)), .second, .val (.long f0), .second, .val (.long s1), .second, .val (.long f1), .second, .val (.long s2), .second, .val (.long f2), .second, .val (.ref b48), .val (.ref b52), .val (.ref b57), .unset, .unset, .unset] [(.long f1), (.int (0 : Int32)), (.ref b52)])) _
    refine XS.l2dS X95.here hx rfl (hb hby at_221) rfl rfl ?_
    show Steps p.tables e below (T95.setTop (mkF m 222 #[.val (.int im), .val (.int ib), .val (.int i0), .val (.int i1), .val (.int i2), .val (.long ga), .second, .val (.int (im &&& (3 : Int32))), .val (.int (1 : Int32)), .val (.int (0 : Int32)), .val (.ref b1), .val (.long (ib.toInt64)), .second, .val (.long f0), .second, .val (.long s1), .second, .val (.long f1), .second, .val (.long s2), .second, .val (.long f2), .second, .val (.ref b48), .val (.ref b52), .val (.ref b57), .unset, .unset, .unset] [(.double (FP.l2d f1)), (.int (0 : Int32)), (.ref b52)])) _
    refine st105 _ ?_
    refine XS.aload X105.here hx rfl (hb hby at_223) rfl rfl ?_
    refine XS.aload X105.here hx rfl (hb hby at_225) rfl rfl ?_
    refine XS.iconst X105.here hx rfl (hb hby at_227) ?_
    refine X105.iaload hx (j := (1 : Int32)) (v := (.int (0 : Int32))) (by rw [e105]; exact Arq113.1) (State.isArrayOf_alike hZ.alike Arq113.2.1) Arq113.2.2 hiq113 haq113 (g := (mkF m 228 #[.val (.int im), .val (.int ib), .val (.int i0), .val (.int i1), .val (.int i2), .val (.long ga), .second, .val (.int (im &&& (3 : Int32))), .val (.int (1 : Int32)), .val (.int (0 : Int32)), .val (.ref b1), .val (.long (ib.toInt64)), .second, .val (.long f0), .second, .val (.long s1), .second, .val (.long f1), .second, .val (.long s2), .second, .val (.long f2), .second, .val (.ref b48), .val (.ref b52), .val (.ref b57), .unset, .unset, .unset] [(.int (1 : Int32)), (.ref b1), (.ref b57)])) rfl rfl (hb hby at_228) _ ?_
    refine XS.lload X105.here hx rfl (hb hby at_229) rfl ?_
    show Steps p.tables e below (T105.setTop (mkF m 231 #[.val (.int im), .val (.int ib), .val (.int i0), .val (.int i1), .val (.int i2), .val (.long ga), .second, .val (.int (im &&& (3 : Int32))), .val (.int (1 : Int32)), .val (.int (0 : Int32)), .val (.ref b1), .val (.long (ib.toInt64)), .second, .val (.long f0), .second, .val (.long s1), .second, .val (.long f1), .second, .val (.long s2), .second, .val (.long f2), .second, .val (.ref b48), .val (.ref b52), .val (.ref b57), .unset, .unset, .unset] [(.long f1), (.int (0 : Int32)), (.ref b57)])) _
    refine st115 _ ?_
    refine XS.aload X115.here hx rfl (hb hby at_232) rfl rfl ?_
    refine XS.aload X115.here hx rfl (hb hby at_234) rfl rfl ?_
    refine XS.iconst X115.here hx rfl (hb hby at_236) ?_
    refine X115.iaload hx (j := (2 : Int32)) (v := (.int (1 : Int32))) (by rw [e115]; exact Arq123.1) (State.isArrayOf_alike hZ.alike Arq123.2.1) Arq123.2.2 hiq123 haq123 (g := (mkF m 237 #[.val (.int im), .val (.int ib), .val (.int i0), .val (.int i1), .val (.int i2), .val (.long ga), .second, .val (.int (im &&& (3 : Int32))), .val (.int (1 : Int32)), .val (.int (0 : Int32)), .val (.ref b1), .val (.long (ib.toInt64)), .second, .val (.long f0), .second, .val (.long s1), .second, .val (.long f1), .second, .val (.long s2), .second, .val (.long f2), .second, .val (.ref b48), .val (.ref b52), .val (.ref b57), .unset, .unset, .unset] [(.int (2 : Int32)), (.ref b1), (.ref b48)])) rfl rfl (hb hby at_237) _ ?_
    refine XS.lload X115.here hx rfl (hb hby at_238) rfl ?_
    show Steps p.tables e below (T115.setTop (mkF m 240 #[.val (.int im), .val (.int ib), .val (.int i0), .val (.int i1), .val (.int i2), .val (.long ga), .second, .val (.int (im &&& (3 : Int32))), .val (.int (1 : Int32)), .val (.int (0 : Int32)), .val (.ref b1), .val (.long (ib.toInt64)), .second, .val (.long f0), .second, .val (.long s1), .second, .val (.long f1), .second, .val (.long s2), .second, .val (.long f2), .second, .val (.ref b48), .val (.ref b52), .val (.ref b57), .unset, .unset, .unset] [(.long s2), (.int (1 : Int32)), (.ref b48)])) _
    refine XS.l2dS X115.here hx rfl (hb hby at_240) rfl rfl ?_
    refine st125 _ ?_
    refine XS.aload X125.here hx rfl (hb hby at_242) rfl rfl ?_
    refine XS.aload X125.here hx rfl (hb hby at_244) rfl rfl ?_
    refine XS.iconst X125.here hx rfl (hb hby at_246) ?_
    refine X125.iaload hx (j := (2 : Int32)) (v := (.int (1 : Int32))) (by rw [e125]; exact Arq133.1) (State.isArrayOf_alike hZ.alike Arq133.2.1) Arq133.2.2 hiq133 haq133 (g := (mkF m 247 #[.val (.int im), .val (.int ib), .val (.int i0), .val (.int i1), .val (.int i2), .val (.long ga), .second, .val (.int (im &&& (3 : Int32))), .val (.int (1 : Int32)), .val (.int (0 : Int32)), .val (.ref b1), .val (.long (ib.toInt64)), .second, .val (.long f0), .second, .val (.long s1), .second, .val (.long f1), .second, .val (.long s2), .second, .val (.long f2), .second, .val (.ref b48), .val (.ref b52), .val (.ref b57), .unset, .unset, .unset] [(.int (2 : Int32)), (.ref b1), (.ref b52)])) rfl rfl (hb hby at_247) _ ?_
    show Steps p.tables e below (T125.setTop (mkF m 248 #[.val (.int im), .val (.int ib), .val (.int i0), .val (.int i1), .val (.int i2), .val (.long ga), .second, .val (.int (im &&& (3 : Int32))), .val (.int (1 : Int32)), .val (.int (0 : Int32)), .val (.ref b1), .val (.long (ib.toInt64)), .second, .val (.long f0), .second, .val (.long s1), .second, .val (.long f1), .second, .val (.long s2), .second, .val (.long f2), .second, .val (.ref b48), .val (.ref b52), .val (.ref b57), .unset, .unset, .unset] [(.int (1 : Int32)), (.ref b52)])) _
    refine XS.lload X125.here hx rfl (hb hby at_248) rfl ?_
    show Steps p.tables e below (T125.setTop (mkF m 250 #[.val (.int im), .val (.int ib), .val (.int i0), .val (.int i1), .val (.int i2), .val (.long ga), .second, .val (.int (im &&& (3 : Int32))), .val (.int (1 : Int32)), .val (.int (0 : Int32)), .val (.ref b1), .val (.long (ib.toInt64)), .second, .val (.long f0), .second, .val (.long s1), .second, .val (.long f1), .second, .val (.long s2), .second, .val (.long f2), .second, .val (.ref b48), .val (.ref b52), .val (.ref b57), .unset, .unset, .unset] [(.long f2), (.int (1 : Int32)), (.ref b52)])) _
    refine XS.l2dS X125.here hx rfl (hb hby at_250) rfl rfl ?_
    refine st135 _ ?_
    refine XS.aload X135.here hx rfl (hb hby at_252) rfl rfl ?_
    refine XS.aload X135.here hx rfl (hb hby at_254) rfl rfl ?_
    refine XS.iconst X135.here hx rfl (hb hby at_256) ?_
    show Steps p.tables e below (T135.setTop (mkF m 257 #[.val (.int im), .val (.int ib), .val (.int i0), .val (.int i1), .val (.int i2), .val (.long ga), .second, .val (.int (im &&& (3 : Int32))), .val (.int (1 : Int32)), .val (.int (0 : Int32)), .val (.ref b1), .val (.long (ib.toInt64)), .second, .val (.long f0), .second, .val (.long s1), .second, .val (.long f1), .second, .val (.long s2), .second, .val (.long f2), .second, .val (.ref b48), .val (.ref b52), .val (.ref b57), .unset, .unset, .unset] [(.int (2 : Int32)), (.ref b1), (.ref b57)])) _
    refine X135.iaload hx (j := (2 : Int32)) (v := (.int (1 : Int32))) (by rw [e135]; exact Arq143.1) (State.isArrayOf_alike hZ.alike Arq143.2.1) Arq143.2.2 hiq143 haq143 (g := (mkF m 257 #[.val (.int im), .val (.int ib), .val (.int i0), .val (.int i1), .val (.int i2), .val (.long ga), .second, .val (.int (im &&& (3 : Int32))), .val (.int (1 : Int32)), .val (.int (0 : Int32)), .val (.ref b1), .val (.long (ib.toInt64)), .second, .val (.long f0), .second, .val (.long s1), .second, .val (.long f1), .second, .val (.long s2), .second, .val (.long f2), .second, .val (.ref b48), .val (.ref b52), .val (.ref b57), .unset, .unset, .unset] [(.int (2 : Int32)), (.ref b1), (.ref b57)])) rfl rfl (hb hby at_257) _ ?_
    refine XS.lload X135.here hx rfl (hb hby at_258) rfl ?_
    refine st145 _ ?_
    refine st153 _ ?_
    refine XS.dup X153.here hx rfl (hb hby at_264) rfl rfl ?_
    refine XS.aload X153.here hx rfl (hb hby at_265) rfl rfl ?_
    show Steps p.tables e below (T153.setTop (mkF m 267 #[.val (.int im), .val (.int ib), .val (.int i0), .val (.int i1), .val (.int i2), .val (.long ga), .second, .val (.int (im &&& (3 : Int32))), .val (.int (1 : Int32)), .val (.int (0 : Int32)), .val (.ref b1), .val (.long (ib.toInt64)), .second, .val (.long f0), .second, .val (.long s1), .second, .val (.long f1), .second, .val (.long s2), .second, .val (.long f2), .second, .val (.ref b48), .val (.ref b52), .val (.ref b57), .unset, .unset, .unset] [(.ref b48), (.ref b153), (.ref b153)])) _
    refine XS.aload X153.here hx rfl (hb hby at_267) rfl rfl ?_
    refine st160.trans ?_
    refine XS.astore X160.here hx rfl (hb hby at_272) rfl rfl (l' := #[.val (.int im), .val (.int ib), .val (.int i0), .val (.int i1), .val (.int i2), .val (.long ga), .second, .val (.int (im &&& (3 : Int32))), .val (.int (1 : Int32)), .val (.int (0 : Int32)), .val (.ref b1), .val (.long (ib.toInt64)), .second, .val (.long f0), .second, .val (.long s1), .second, .val (.long f1), .second, .val (.long s2), .second, .val (.long f2), .second, .val (.ref b48), .val (.ref b52), .val (.ref b57), .val (.ref b153), .unset, .unset]) rfl ?_
    exact kt
  rcases own_n4 im with hn | hn | hn | hn
  · have k169 : ∀ tq, Steps p.tables e below (T160.setTop (mkF m 274 #[.val (.int im), .val (.int ib), .val (.int i0), .val (.int i1), .val (.int i2), .val (.long ga), .second, .val (.int (0 : Int32)), .val (.int (1 : Int32)), .val (.int (0 : Int32)), .val (.ref b1), .val (.long (ib.toInt64)), .second, .val (.long f0), .second, .val (.long s1), .second, .val (.long f1), .second, .val (.long s2), .second, .val (.long f2), .second, .val (.ref b48), .val (.ref b52), .val (.ref b57), .val (.ref b153), .unset, .unset] [])) tq → Steps p.tables e below (s₁.setTop (entryFrame m #[(.int im), (.int ib), (.int i0), (.int i1), (.int i2), (.long ga)] maxLocals)) tq := by
      intro tq kt
      refine k168 tq ?_
      rw [hn]
      exact kt
    obtain ⟨cq170, kq170, q170a, q170b, q170c⟩ := isOf hZ rfl Eo160
    obtain ⟨_, _, ⟨T170, L170, k170, n170⟩, -, X170, ⟨Lc170, hQ170, l170, y170, z170⟩, st170⟩ := X160.virtualBack hx (y := (⟨"com/example/makespun/makespun/simulate/Timeline", "freeAt", "()D"⟩ : MethodName)) (z := (⟨"com/example/makespun/makespun/simulate/Timeline", "freeAt", "()D"⟩ : MethodName)) hown (mvT hZ (hw _ (List.mem_of_getElem? (i := 20) rfl))) (mvT hZ (hw _ (List.mem_of_getElem? (i := 21) rfl))) (notFace_of_selects (args := #[]) (mvT hZ (hw _ (List.mem_of_getElem? (i := 23) rfl)))) (mvT hZ (hw _ (List.mem_of_getElem? (i := 23) rfl))) (mvT hZ (hw _ (List.mem_of_getElem? (i := 22) rfl))) (by decide) (backOf (W := 0) (rmF0 l Z a0 hw [] b153 T160.heap n0 z166 Fs160) hZ (hw _ (List.mem_of_getElem? (i := 24) rfl)) (hw _ (List.mem_of_getElem? (i := 7) rfl)) (by decide) (by decide)) q170a q170c (g := (mkF m 382 #[.val (.int im), .val (.int ib), .val (.int i0), .val (.int i1), .val (.int i2), .val (.long ga), .second, .val (.int (0 : Int32)), .val (.int (1 : Int32)), .val (.int (0 : Int32)), .val (.ref b1), .val (.long (ib.toInt64)), .second, .val (.long f0), .second, .val (.long s1), .second, .val (.long f1), .second, .val (.long s2), .second, .val (.long f2), .second, .val (.ref b48), .val (.ref b52), .val (.ref b57), .val (.ref b153), .val (.long (0 : Int64)), .second] [(.ref b153)])) rfl (by rw [hml]; rfl) (Steps.refl _) (argsL := []) (rest := []) (lenOf pd_2 rfl) rfl (by show 2 * 0 + _ ≤ _; exact Nat.le_of_eq rfl) (hb hby at_382) (fun _ _ => ⟨rfl, rfl, (by decide : 6 + 0 ≤ _), (by decide : 21 + 0 ≤ _)⟩)
    dsimp only [Pt.U, Pt.locs, Pt.cells, Pt.slots] at X170 l170 y170 z170 st170 hQ170
    replace X170 := own_cast X170 l170 y170 z170
    obtain ⟨hv170, N170q, e170⟩ := hQ170
    rw [hv170] at st170
    have N170 := Fr.app N160 N170q
    obtain ⟨fs, hr, hrun, hended, hW, hsame⟩ := X170.leave (v := some (.int (1 : Int32))) (fun h => by rw [Bd.returns] at h; cases h)
    refine ⟨_, _, k169 _ ?_, hrun, hended, _, _, rfl, ?_, ⟨_, rfl⟩, hW, hsame.mono (by decide) (by decide)⟩
    · refine XS.iload X160.here hx rfl (hb hby at_274) rfl ?_
      refine XS.iconst X160.here hx rfl (hb hby at_276) ?_
      show Steps p.tables e below (T160.setTop (mkF m 277 #[.val (.int im), .val (.int ib), .val (.int i0), .val (.int i1), .val (.int i2), .val (.long ga), .second, .val (.int (0 : Int32)), .val (.int (1 : Int32)), .val (.int (0 : Int32)), .val (.ref b1), .val (.long (ib.toInt64)), .second, .val (.long f0), .second, .val (.long s1), .second, .val (.long f1), .second, .val (.long s2), .second, .val (.long f2), .second, .val (.ref b48), .val (.ref b52), .val (.ref b57), .val (.ref b153), .unset, .unset] [(.int (1 : Int32)), (.int (0 : Int32))])) _
      refine XS.icmpYes X160.here hx rfl (pc0 := 277) (pc' := 287) rfl (hb hby at_277) rfl (tlt (by decide : ((0 : Int32) < (1 : Int32)))).1 (by decide) (by decide) ?_
      refine XS.iload X160.here hx rfl (hb hby at_287) rfl ?_
      show Steps p.tables e below (T160.setTop (mkF m 289 #[.val (.int im), .val (.int ib), .val (.int i0), .val (.int i1), .val (.int i2), .val (.long ga), .second, .val (.int (0 : Int32)), .val (.int (1 : Int32)), .val (.int (0 : Int32)), .val (.ref b1), .val (.long (ib.toInt64)), .second, .val (.long f0), .second, .val (.long s1), .second, .val (.long f1), .second, .val (.long s2), .second, .val (.long f2), .second, .val (.ref b48), .val (.ref b52), .val (.ref b57), .val (.ref b153), .unset, .unset] [(.int (0 : Int32))])) _
      refine XS.iconst X160.here hx rfl (hb hby at_289) ?_
      show Steps p.tables e below (T160.setTop (mkF m 290 #[.val (.int im), .val (.int ib), .val (.int i0), .val (.int i1), .val (.int i2), .val (.long ga), .second, .val (.int (0 : Int32)), .val (.int (1 : Int32)), .val (.int (0 : Int32)), .val (.ref b1), .val (.long (ib.toInt64)), .second, .val (.long f0), .second, .val (.long s1), .second, .val (.long f1), .second, .val (.long s2), .second, .val (.long f2), .second, .val (.ref b48), .val (.ref b52), .val (.ref b57), .val (.ref b153), .unset, .unset] [(.int (2 : Int32)), (.int (0 : Int32))])) _
      refine XS.icmpYes X160.here hx rfl (pc0 := 290) (pc' := 309) rfl (hb hby at_290) rfl (tlt (by decide : ((0 : Int32) < (2 : Int32)))).1 (by decide) (by decide) ?_
      refine XS.iload X160.here hx rfl (hb hby at_309) rfl ?_
      refine XS.iconst X160.here hx rfl (hb hby at_311) ?_
      show Steps p.tables e below (T160.setTop (mkF m 312 #[.val (.int im), .val (.int ib), .val (.int i0), .val (.int i1), .val (.int i2), .val (.long ga), .second, .val (.int (0 : Int32)), .val (.int (1 : Int32)), .val (.int (0 : Int32)), .val (.ref b1), .val (.long (ib.toInt64)), .second, .val (.long f0), .second, .val (.long s1), .second, .val (.long f1), .second, .val (.long s2), .second, .val (.long f2), .second, .val (.ref b48), .val (.ref b52), .val (.ref b57), .val (.ref b153), .unset, .unset] [(.int (3 : Int32)), (.int (0 : Int32))])) _
      refine XS.icmpYes X160.here hx rfl (pc0 := 312) (pc' := 331) rfl (hb hby at_312) rfl (feq (by decide : ¬ ((0 : Int32) = (3 : Int32)))).2 (by decide) (by decide) ?_
      refine XS.lconst X160.here hx rfl (hb hby at_331) ?_
      refine XS.lstore X160.here hx rfl (hb hby at_332) rfl (l' := #[.val (.int im), .val (.int ib), .val (.int i0), .val (.int i1), .val (.int i2), .val (.long ga), .second, .val (.int (0 : Int32)), .val (.int (1 : Int32)), .val (.int (0 : Int32)), .val (.ref b1), .val (.long (ib.toInt64)), .second, .val (.long f0), .second, .val (.long s1), .second, .val (.long f1), .second, .val (.long s2), .second, .val (.long f2), .second, .val (.ref b48), .val (.ref b52), .val (.ref b57), .val (.ref b153), .val (.long (0 : Int64)), .second]) rfl ?_
      refine XS.iload X160.here hx rfl (hb hby at_334) rfl ?_
      show Steps p.tables e below (T160.setTop (mkF m 336 #[.val (.int im), .val (.int ib), .val (.int i0), .val (.int i1), .val (.int i2), .val (.long ga), .second, .val (.int (0 : Int32)), .val (.int (1 : Int32)), .val (.int (0 : Int32)), .val (.ref b1), .val (.long (ib.toInt64)), .second, .val (.long f0), .second, .val (.long s1), .second, .val (.long f1), .second, .val (.long s2), .second, .val (.long f2), .second, .val (.ref b48), .val (.ref b52), .val (.ref b57), .val (.ref b153), .val (.long (0 : Int64)), .second] [(.int (0 : Int32))])) _
      refine XS.iconst X160.here hx rfl (hb hby at_336) ?_
      show Steps p.tables e below (T160.setTop (mkF m 337 #[.val (.int im), .val (.int ib), .val (.int i0), .val (.int i1), .val (.int i2), .val (.long ga), .second, .val (.int (0 : Int32)), .val (.int (1 : Int32)), .val (.int (0 : Int32)), .val (.ref b1), .val (.long (ib.toInt64)), .second, .val (.long f0), .second, .val (.long s1), .second, .val (.long f1), .second, .val (.long s2), .second, .val (.long f2), .second, .val (.ref b48), .val (.ref b52), .val (.ref b57), .val (.ref b153), .val (.long (0 : Int64)), .second] [(.int (1 : Int32)), (.int (0 : Int32))])) _
      refine XS.icmpYes X160.here hx rfl (pc0 := 337) (pc' := 346) rfl (hb hby at_337) rfl (tlt (by decide : ((0 : Int32) < (1 : Int32)))).1 (by decide) (by decide) ?_
      refine XS.iload X160.here hx rfl (hb hby at_346) rfl ?_
      refine XS.iconst X160.here hx rfl (hb hby at_348) ?_
      show Steps p.tables e below (T160.setTop (mkF m 349 #[.val (.int im), .val (.int ib), .val (.int i0), .val (.int i1), .val (.int i2), .val (.long ga), .second, .val (.int (0 : Int32)), .val (.int (1 : Int32)), .val (.int (0 : Int32)), .val (.ref b1), .val (.long (ib.toInt64)), .second, .val (.long f0), .second, .val (.long s1), .second, .val (.long f1), .second, .val (.long s2), .second, .val (.long f2), .second, .val (.ref b48), .val (.ref b52), .val (.ref b57), .val (.ref b153), .val (.long (0 : Int64)), .second] [(.int (2 : Int32)), (.int (0 : Int32))])) _
      refine XS.icmpYes X160.here hx rfl (pc0 := 349) (pc' := 363) rfl (hb hby at_349) rfl (tlt (by decide : ((0 : Int32) < (2 : Int32)))).1 (by decide) (by decide) ?_
      refine XS.iload X160.here hx rfl (hb hby at_363) rfl ?_
      refine XS.iconst X160.here hx rfl (hb hby at_365) ?_
      show Steps p.tables e below (T160.setTop (mkF m 366 #[.val (.int im), .val (.int ib), .val (.int i0), .val (.int i1), .val (.int i2), .val (.long ga), .second, .val (.int (0 : Int32)), .val (.int (1 : Int32)), .val (.int (0 : Int32)), .val (.ref b1), .val (.long (ib.toInt64)), .second, .val (.long f0), .second, .val (.long s1), .second, .val (.long f1), .second, .val (.long s2), .second, .val (.long f2), .second, .val (.ref b48), .val (.ref b52), .val (.ref b57), .val (.ref b153), .val (.long (0 : Int64)), .second] [(.int (3 : Int32)), (.int (0 : Int32))])) _
      refine XS.icmpYes X160.here hx rfl (pc0 := 366) (pc' := 380) rfl (hb hby at_366) rfl (feq (by decide : ¬ ((0 : Int32) = (3 : Int32)))).2 (by decide) (by decide) ?_
      refine XS.aload X160.here hx rfl (hb hby at_380) rfl rfl ?_
      show Steps p.tables e below (T160.setTop (mkF m 382 #[.val (.int im), .val (.int ib), .val (.int i0), .val (.int i1), .val (.int i2), .val (.long ga), .second, .val (.int (0 : Int32)), .val (.int (1 : Int32)), .val (.int (0 : Int32)), .val (.ref b1), .val (.long (ib.toInt64)), .second, .val (.long f0), .second, .val (.long s1), .second, .val (.long f1), .second, .val (.long s2), .second, .val (.long f2), .second, .val (.ref b48), .val (.ref b52), .val (.ref b57), .val (.ref b153), .val (.long (0 : Int64)), .second] [(.ref b153)])) _
      refine st170.trans ?_
      refine XS.lload X170.here hx rfl (hb hby at_385) rfl ?_
      show Steps p.tables e below (T170.setTop (mkF m 387 #[.val (.int im), .val (.int ib), .val (.int i0), .val (.int i1), .val (.int i2), .val (.long ga), .second, .val (.int (0 : Int32)), .val (.int (1 : Int32)), .val (.int (0 : Int32)), .val (.ref b1), .val (.long (ib.toInt64)), .second, .val (.long f0), .second, .val (.long s1), .second, .val (.long f1), .second, .val (.long s2), .second, .val (.long f2), .second, .val (.ref b48), .val (.ref b52), .val (.ref b57), .val (.ref b153), .val (.long (0 : Int64)), .second] [(.long (0 : Int64)), (.double FP.dconst0)])) _
      refine XS.l2dS X170.here hx rfl (hb hby at_387) rfl rfl ?_
      show Steps p.tables e below (T170.setTop (mkF m 388 #[.val (.int im), .val (.int ib), .val (.int i0), .val (.int i1), .val (.int i2), .val (.long ga), .second, .val (.int (0 : Int32)), .val (.int (1 : Int32)), .val (.int (0 : Int32)), .val (.ref b1), .val (.long (ib.toInt64)), .second, .val (.long f0), .second, .val (.long s1), .second, .val (.long f1), .second, .val (.long s2), .second, .val (.long f2), .second, .val (.ref b48), .val (.ref b52), .val (.ref b57), .val (.ref b153), .val (.long (0 : Int64)), .second] [(.double (FP.l2d (0 : Int64))), (.double FP.dconst0)])) _
      refine XS.dcmpS X170.here hx rfl (hb hby at_388) rfl (v := (0 : Int32)) own_cmp0 ?_
      show Steps p.tables e below (T170.setTop (mkF m 389 #[.val (.int im), .val (.int ib), .val (.int i0), .val (.int i1), .val (.int i2), .val (.long ga), .second, .val (.int (0 : Int32)), .val (.int (1 : Int32)), .val (.int (0 : Int32)), .val (.ref b1), .val (.long (ib.toInt64)), .second, .val (.long f0), .second, .val (.long s1), .second, .val (.long f1), .second, .val (.long s2), .second, .val (.long f2), .second, .val (.ref b48), .val (.ref b52), .val (.ref b57), .val (.ref b153), .val (.long (0 : Int64)), .second] [(.int (0 : Int32))])) _
      refine XS.ifNo X170.here hx rfl (hb hby at_389) rfl ((if0 _ _).trans (teq (by decide : ((0 : Int32) = (0 : Int32)))).2) ?_
      refine XS.iconst X170.here hx rfl (hb hby at_392) ?_
      refine XS.goto X170.here hx rfl (pc0 := 393) (pc' := 397) rfl (hb hby at_393) (by decide) (by decide) ?_
      show Steps p.tables e below (T170.setTop (mkF m 397 #[.val (.int im), .val (.int ib), .val (.int i0), .val (.int i1), .val (.int i2), .val (.long ga), .second, .val (.int (0 : Int32)), .val (.int (1 : Int32)), .val (.int (0 : Int32)), .val (.ref b1), .val (.long (ib.toInt64)), .second, .val (.long f0), .second, .val (.long s1), .second, .val (.long f1), .second, .val (.long s2), .second, .val (.long f2), .second, .val (.ref b48), .val (.ref b52), .val (.ref b57), .val (.ref b153), .val (.long (0 : Int64)), .second] [(.int (1 : Int32))])) _
      exact retN X170 hx (t := .boolean) Bd.returns (by simp) (hb hby at_397) hr
    · show own_Q0 Z im ib i0 i1 i2 ga h0 n0 _ T170.heap _
      rw [e170]
      exact ⟨rfl, N170⟩
  · have k171 : ∀ tq, Steps p.tables e below (T160.setTop (mkF m 274 #[.val (.int im), .val (.int ib), .val (.int i0), .val (.int i1), .val (.int i2), .val (.long ga), .second, .val (.int (1 : Int32)), .val (.int (1 : Int32)), .val (.int (0 : Int32)), .val (.ref b1), .val (.long (ib.toInt64)), .second, .val (.long f0), .second, .val (.long s1), .second, .val (.long f1), .second, .val (.long s2), .second, .val (.long f2), .second, .val (.ref b48), .val (.ref b52), .val (.ref b57), .val (.ref b153), .unset, .unset] [])) tq → Steps p.tables e below (s₁.setTop (entryFrame m #[(.int im), (.int ib), (.int i0), (.int i1), (.int i2), (.long ga)] maxLocals)) tq := by
      intro tq kt
      refine k168 tq ?_
      rw [hn]
      exact kt
    obtain ⟨cq172, kq172, q172a, q172b, q172c⟩ := isOf hZ rfl Eo160
    obtain ⟨_, _, ⟨T172, L172, k172, n172⟩, -, X172, ⟨Lc172, hQ172, l172, y172, z172⟩, st172⟩ := X160.virtualBack hx (y := (⟨"com/example/makespun/makespun/simulate/Timeline", "add", "(II)V"⟩ : MethodName)) (z := (⟨"com/example/makespun/makespun/simulate/Timeline", "add", "(II)V"⟩ : MethodName)) hown (mvT hZ (hw _ (List.mem_of_getElem? (i := 27) rfl))) (mvT hZ (hw _ (List.mem_of_getElem? (i := 28) rfl))) (notFace_of_selects (args := #[]) (mvT hZ (hw _ (List.mem_of_getElem? (i := 30) rfl)))) (mvT hZ (hw _ (List.mem_of_getElem? (i := 30) rfl))) (mvT hZ (hw _ (List.mem_of_getElem? (i := 29) rfl))) (by decide) (backOf (W := 0) (rmA00 l Z a0 hw [] b153 bt160 b52 kb160 (0 : Int32) (0 : Int32) (0 : Int32) (0 : Int32) (0 : Int32) T160.heap n0 z166 Eo160 Ft160 Fs160 Ff160 Fi160 Vt160 ne_b153_bt160 g_b153 g_bt160) hZ (hw _ (List.mem_of_getElem? (i := 31) rfl)) (hw _ (List.mem_of_getElem? (i := 7) rfl)) (by decide) (by decide)) q172a q172c (g := (mkF m 284 #[.val (.int im), .val (.int ib), .val (.int i0), .val (.int i1), .val (.int i2), .val (.long ga), .second, .val (.int (1 : Int32)), .val (.int (1 : Int32)), .val (.int (0 : Int32)), .val (.ref b1), .val (.long (ib.toInt64)), .second, .val (.long f0), .second, .val (.long s1), .second, .val (.long f1), .second, .val (.long s2), .second, .val (.long f2), .second, .val (.ref b48), .val (.ref b52), .val (.ref b57), .val (.ref b153), .unset, .unset] [(.int (0 : Int32)), (.int (0 : Int32)), (.ref b153)])) rfl (by rw [hml]; rfl) (Steps.refl _) (argsL := [(.int (0 : Int32)), (.int (0 : Int32))]) (rest := []) (lenOf pd_3 rfl) rfl (by show 2 * 0 + _ ≤ _; exact Nat.le_of_eq rfl) (hb hby at_284) (fun _ _ => ⟨rfl, rfl, (by decide : 6 + 0 ≤ _), (by decide : 21 + 0 ≤ _)⟩)
    dsimp only [Pt.U, Pt.locs, Pt.cells, Pt.slots] at X172 l172 y172 z172 st172 hQ172
    replace X172 := own_cast X172 l172 y172 z172
    obtain ⟨hv172, N172q, K172, Eo172, Ft172, Fs172, Ff172, Fi172, Vt172⟩ := hQ172
    rw [hv172] at st172
    have N172 := Fr.app N160 N172q
    have f173 := f161.keep K172 (ninS ne_b1_b153 (ninS ne_b1_bt160 nin0))
    have f174 := f162.keep K172 (ninS ne_b48_b153 (ninS ne_b48_bt160 nin0))
    have f175 := f163.keep K172 (ninS ne_b52_b153 (ninS ne_b52_bt160 nin0))
    have f176 := f164.keep K172 (ninS ne_b57_b153 (ninS ne_b57_bt160 nin0))
    have f177 := Eo160.keep K172
    have z178 := Nat.le_trans z166 K172.1
    have kp179 := Keep.trans kp167 K172 (allS (Or.inr sz_b153) (allS (Or.inr sz_bt160) all0))
    obtain ⟨clq180, Arq180, cq180, Sq180, nq180, Hq180, Gq180⟩ := id f176
    have hiq180 : ¬ ((0 : Int32) < 0 ∨ clq180.slots.size ≤ ((0 : Int32)).toNatClampNeg) := inb_of Sq180 ⟨by decide, by decide⟩
    have haq180 : clq180.slots[((0 : Int32)).toNatClampNeg]? = some (.long f1) := Hq180.at hiq180 rfl
    obtain ⟨cq181, kq181, q181a, q181b, q181c⟩ := isOf hZ rfl Eo172
    obtain ⟨_, _, ⟨T181, L181, k181, n181⟩, -, X181, ⟨Lc181, hQ181, l181, y181, z181⟩, st181⟩ := X172.virtualBack hx (y := (⟨"com/example/makespun/makespun/simulate/Timeline", "freeAt", "()D"⟩ : MethodName)) (z := (⟨"com/example/makespun/makespun/simulate/Timeline", "freeAt", "()D"⟩ : MethodName)) hown (mvT hZ (hw _ (List.mem_of_getElem? (i := 20) rfl))) (mvT hZ (hw _ (List.mem_of_getElem? (i := 21) rfl))) (notFace_of_selects (args := #[]) (mvT hZ (hw _ (List.mem_of_getElem? (i := 23) rfl)))) (mvT hZ (hw _ (List.mem_of_getElem? (i := 23) rfl))) (mvT hZ (hw _ (List.mem_of_getElem? (i := 22) rfl))) (by decide) (backOf (W := 0) (rmF10 l Z a0 hw [] b153 bt160 b52 kb160 k52 (0 : Int32) (0 : Int32) (0 : Int32) (FP.l2d f1) (FP.l2d f2) (FP.l2d f0) T172.heap n0 z178 Ft172 Fs172 Ff172 Vt172 f175) hZ (hw _ (List.mem_of_getElem? (i := 24) rfl)) (hw _ (List.mem_of_getElem? (i := 7) rfl)) (by decide) (by decide)) q181a q181c (g := (mkF m 382 #[.val (.int im), .val (.int ib), .val (.int i0), .val (.int i1), .val (.int i2), .val (.long ga), .second, .val (.int (1 : Int32)), .val (.int (1 : Int32)), .val (.int (0 : Int32)), .val (.ref b1), .val (.long (ib.toInt64)), .second, .val (.long f0), .second, .val (.long s1), .second, .val (.long f1), .second, .val (.long s2), .second, .val (.long f2), .second, .val (.ref b48), .val (.ref b52), .val (.ref b57), .val (.ref b153), .val (.long f1), .second] [(.ref b153)])) rfl (by rw [hml]; rfl) (Steps.refl _) (argsL := []) (rest := []) (lenOf pd_2 rfl) rfl (by show 2 * 0 + _ ≤ _; exact Nat.le_of_eq rfl) (hb hby at_382) (fun _ _ => ⟨rfl, rfl, (by decide : 6 + 0 ≤ _), (by decide : 21 + 0 ≤ _)⟩)
    dsimp only [Pt.U, Pt.locs, Pt.cells, Pt.slots] at X181 l181 y181 z181 st181 hQ181
    replace X181 := own_cast X181 l181 y181 z181
    obtain ⟨hv181, N181q, e181⟩ := hQ181
    rw [hv181] at st181
    have N181 := Fr.app N172 N181q
    obtain ⟨fs, hr, hrun, hended, hW, hsame⟩ := X181.leave (v := some (.int (1 : Int32))) (fun h => by rw [Bd.returns] at h; cases h)
    refine ⟨_, _, k171 _ ?_, hrun, hended, _, _, rfl, ?_, ⟨_, rfl⟩, hW, hsame.mono (by decide) (by decide)⟩
    · refine XS.iload X160.here hx rfl (hb hby at_274) rfl ?_
      show Steps p.tables e below (T160.setTop (mkF m 276 #[.val (.int im), .val (.int ib), .val (.int i0), .val (.int i1), .val (.int i2), .val (.long ga), .second, .val (.int (1 : Int32)), .val (.int (1 : Int32)), .val (.int (0 : Int32)), .val (.ref b1), .val (.long (ib.toInt64)), .second, .val (.long f0), .second, .val (.long s1), .second, .val (.long f1), .second, .val (.long s2), .second, .val (.long f2), .second, .val (.ref b48), .val (.ref b52), .val (.ref b57), .val (.ref b153), .unset, .unset] [(.int (1 : Int32))])) _
      refine XS.iconst X160.here hx rfl (hb hby at_276) ?_
      show Steps p.tables e below (T160.setTop (mkF m 277 #[.val (.int im), .val (.int ib), .val (.int i0), .val (.int i1), .val (.int i2), .val (.long ga), .second, .val (.int (1 : Int32)), .val (.int (1 : Int32)), .val (.int (0 : Int32)), .val (.ref b1), .val (.long (ib.toInt64)), .second, .val (.long f0), .second, .val (.long s1), .second, .val (.long f1), .second, .val (.long s2), .second, .val (.long f2), .second, .val (.ref b48), .val (.ref b52), .val (.ref b57), .val (.ref b153), .unset, .unset] [(.int (1 : Int32)), (.int (1 : Int32))])) _
      refine XS.icmpNo X160.here hx rfl (hb hby at_277) rfl (flt (by decide : ¬ ((1 : Int32) < (1 : Int32)))).1 ?_
      refine XS.aload X160.here hx rfl (hb hby at_280) rfl rfl ?_
      refine XS.iconst X160.here hx rfl (hb hby at_282) ?_
      refine XS.iconst X160.here hx rfl (hb hby at_283) ?_
      refine st172.trans ?_
      refine XS.iload X172.here hx rfl (hb hby at_287) rfl ?_
      show Steps p.tables e below (T172.setTop (mkF m 289 #[.val (.int im), .val (.int ib), .val (.int i0), .val (.int i1), .val (.int i2), .val (.long ga), .second, .val (.int (1 : Int32)), .val (.int (1 : Int32)), .val (.int (0 : Int32)), .val (.ref b1), .val (.long (ib.toInt64)), .second, .val (.long f0), .second, .val (.long s1), .second, .val (.long f1), .second, .val (.long s2), .second, .val (.long f2), .second, .val (.ref b48), .val (.ref b52), .val (.ref b57), .val (.ref b153), .unset, .unset] [(.int (1 : Int32))])) _
      refine XS.iconst X172.here hx rfl (hb hby at_289) ?_
      show Steps p.tables e below (T172.setTop (mkF m 290 #[.val (.int im), .val (.int ib), .val (.int i0), .val (.int i1), .val (.int i2), .val (.long ga), .second, .val (.int (1 : Int32)), .val (.int (1 : Int32)), .val (.int (0 : Int32)), .val (.ref b1), .val (.long (ib.toInt64)), .second, .val (.long f0), .second, .val (.long s1), .second, .val (.long f1), .second, .val (.long s2), .second, .val (.long f2), .second, .val (.ref b48), .val (.ref b52), .val (.ref b57), .val (.ref b153), .unset, .unset] [(.int (2 : Int32)), (.int (1 : Int32))])) _
      refine XS.icmpYes X172.here hx rfl (pc0 := 290) (pc' := 309) rfl (hb hby at_290) rfl (tlt (by decide : ((1 : Int32) < (2 : Int32)))).1 (by decide) (by decide) ?_
      refine XS.iload X172.here hx rfl (hb hby at_309) rfl ?_
      refine XS.iconst X172.here hx rfl (hb hby at_311) ?_
      show Steps p.tables e below (T172.setTop (mkF m 312 #[.val (.int im), .val (.int ib), .val (.int i0), .val (.int i1), .val (.int i2), .val (.long ga), .second, .val (.int (1 : Int32)), .val (.int (1 : Int32)), .val (.int (0 : Int32)), .val (.ref b1), .val (.long (ib.toInt64)), .second, .val (.long f0), .second, .val (.long s1), .second, .val (.long f1), .second, .val (.long s2), .second, .val (.long f2), .second, .val (.ref b48), .val (.ref b52), .val (.ref b57), .val (.ref b153), .unset, .unset] [(.int (3 : Int32)), (.int (1 : Int32))])) _
      refine XS.icmpYes X172.here hx rfl (pc0 := 312) (pc' := 331) rfl (hb hby at_312) rfl (feq (by decide : ¬ ((1 : Int32) = (3 : Int32)))).2 (by decide) (by decide) ?_
      refine XS.lconst X172.here hx rfl (hb hby at_331) ?_
      refine XS.lstore X172.here hx rfl (hb hby at_332) rfl (l' := #[.val (.int im), .val (.int ib), .val (.int i0), .val (.int i1), .val (.int i2), .val (.long ga), .second, .val (.int (1 : Int32)), .val (.int (1 : Int32)), .val (.int (0 : Int32)), .val (.ref b1), .val (.long (ib.toInt64)), .second, .val (.long f0), .second, .val (.long s1), .second, .val (.long f1), .second, .val (.long s2), .second, .val (.long f2), .second, .val (.ref b48), .val (.ref b52), .val (.ref b57), .val (.ref b153), .val (.long (0 : Int64)), .second]) rfl ?_
      refine XS.iload X172.here hx rfl (hb hby at_334) rfl ?_
      show Steps p.tables e below (T172.setTop (mkF m 336 #[.val (.int im), .val (.int ib), .val (.int i0), .val (.int i1), .val (.int i2), .val (.long ga), .second, .val (.int (1 : Int32)), .val (.int (1 : Int32)), .val (.int (0 : Int32)), .val (.ref b1), .val (.long (ib.toInt64)), .second, .val (.long f0), .second, .val (.long s1), .second, .val (.long f1), .second, .val (.long s2), .second, .val (.long f2), .second, .val (.ref b48), .val (.ref b52), .val (.ref b57), .val (.ref b153), .val (.long (0 : Int64)), .second] [(.int (1 : Int32))])) _
      refine XS.iconst X172.here hx rfl (hb hby at_336) ?_
      show Steps p.tables e below (T172.setTop (mkF m 337 #[.val (.int im), .val (.int ib), .val (.int i0), .val (.int i1), .val (.int i2), .val (.long ga), .second, .val (.int (1 : Int32)), .val (.int (1 : Int32)), .val (.int (0 : Int32)), .val (.ref b1), .val (.long (ib.toInt64)), .second, .val (.long f0), .second, .val (.long s1), .second, .val (.long f1), .second, .val (.long s2), .second, .val (.long f2), .second, .val (.ref b48), .val (.ref b52), .val (.ref b57), .val (.ref b153), .val (.long (0 : Int64)), .second] [(.int (1 : Int32)), (.int (1 : Int32))])) _
      refine XS.icmpNo X172.here hx rfl (hb hby at_337) rfl (flt (by decide : ¬ ((1 : Int32) < (1 : Int32)))).1 ?_
      refine XS.aload X172.here hx rfl (hb hby at_340) rfl rfl ?_
      refine XS.iconst X172.here hx rfl (hb hby at_342) ?_
      refine X172.laload hx (j := (0 : Int32)) (v := (.long f1)) (by exact Arq180.1) (State.isArrayOf_alike hZ.alike Arq180.2.1) Arq180.2.2 hiq180 haq180 (g := (mkF m 343 #[.val (.int im), .val (.int ib), .val (.int i0), .val (.int i1), .val (.int i2), .val (.long ga), .second, .val (.int (1 : Int32)), .val (.int (1 : Int32)), .val (.int (0 : Int32)), .val (.ref b1), .val (.long (ib.toInt64)), .second, .val (.long f0), .second, .val (.long s1), .second, .val (.long f1), .second, .val (.long s2), .second, .val (.long f2), .second, .val (.ref b48), .val (.ref b52), .val (.ref b57), .val (.ref b153), .val (.long (0 : Int64)), .second] [(.int (0 : Int32)), (.ref b57)])) rfl rfl (hb hby at_343) _ ?_
      refine XS.lstore X172.here hx rfl (hb hby at_344) rfl (l' := #[.val (.int im), .val (.int ib), .val (.int i0), .val (.int i1), .val (.int i2), .val (.long ga), .second, .val (.int (1 : Int32)), .val (.int (1 : Int32)), .val (.int (0 : Int32)), .val (.ref b1), .val (.long (ib.toInt64)), .second, .val (.long f0), .second, .val (.long s1), .second, .val (.long f1), .second, .val (.long s2), .second, .val (.long f2), .second, .val (.ref b48), .val (.ref b52), .val (.ref b57), .val (.ref b153), .val (.long f1), .second]) rfl ?_
      refine XS.iload X172.here hx rfl (hb hby at_346) rfl ?_
      show Steps p.tables e below (T172.setTop (mkF m 348 #[.val (.int im), .val (.int ib), .val (.int i0), .val (.int i1), .val (.int i2), .val (.long ga), .second, .val (.int (1 : Int32)), .val (.int (1 : Int32)), .val (.int (0 : Int32)), .val (.ref b1), .val (.long (ib.toInt64)), .second, .val (.long f0), .second, .val (.long s1), .second, .val (.long f1), .second, .val (.long s2), .second, .val (.long f2), .second, .val (.ref b48), .val (.ref b52), .val (.ref b57), .val (.ref b153), .val (.long f1), .second] [(.int (1 : Int32))])) _
      refine XS.iconst X172.here hx rfl (hb hby at_348) ?_
      show Steps p.tables e below (T172.setTop (mkF m 349 #[.val (.int im), .val (.int ib), .val (.int i0), .val (.int i1), .val (.int i2), .val (.long ga), .second, .val (.int (1 : Int32)), .val (.int (1 : Int32)), .val (.int (0 : Int32)), .val (.ref b1), .val (.long (ib.toInt64)), .second, .val (.long f0), .second, .val (.long s1), .second, .val (.long f1), .second, .val (.long s2), .second, .val (.long f2), .second, .val (.ref b48), .val (.ref b52), .val (.ref b57), .val (.ref b153), .val (.long f1), .second] [(.int (2 : Int32)), (.int (1 : Int32))])) _
      refine XS.icmpYes X172.here hx rfl (pc0 := 349) (pc' := 363) rfl (hb hby at_349) rfl (tlt (by decide : ((1 : Int32) < (2 : Int32)))).1 (by decide) (by decide) ?_
      refine XS.iload X172.here hx rfl (hb hby at_363) rfl ?_
      refine XS.iconst X172.here hx rfl (hb hby at_365) ?_
      show Steps p.tables e below (T172.setTop (mkF m 366 #[.val (.int im), .val (.int ib), .val (.int i0), .val (.int i1), .val (.int i2), .val (.long ga), .second, .val (.int (1 : Int32)), .val (.int (1 : Int32)), .val (.int (0 : Int32)), .val (.ref b1), .val (.long (ib.toInt64)), .second, .val (.long f0), .second, .val (.long s1), .second, .val (.long f1), .second, .val (.long s2), .second, .val (.long f2), .second, .val (.ref b48), .val (.ref b52), .val (.ref b57), .val (.ref b153), .val (.long f1), .second] [(.int (3 : Int32)), (.int (1 : Int32))])) _
      refine XS.icmpYes X172.here hx rfl (pc0 := 366) (pc' := 380) rfl (hb hby at_366) rfl (feq (by decide : ¬ ((1 : Int32) = (3 : Int32)))).2 (by decide) (by decide) ?_
      refine XS.aload X172.here hx rfl (hb hby at_380) rfl rfl ?_
      refine st181.trans ?_
      refine XS.lload X181.here hx rfl (hb hby at_385) rfl ?_
      show Steps p.tables e below (T181.setTop (mkF m 387 #[.val (.int im), .val (.int ib), .val (.int i0), .val (.int i1), .val (.int i2), .val (.long ga), .second, .val (.int (1 : Int32)), .val (.int (1 : Int32)), .val (.int (0 : Int32)), .val (.ref b1), .val (.long (ib.toInt64)), .second, .val (.long f0), .second, .val (.long s1), .second, .val (.long f1), .second, .val (.long s2), .second, .val (.long f2), .second, .val (.ref b48), .val (.ref b52), .val (.ref b57), .val (.ref b153), .val (.long f1), .second] [(.long f1), (.double (FP.l2d f1))])) _
      refine XS.l2dS X181.here hx rfl (hb hby at_387) rfl rfl ?_
      show Steps p.tables e below (T181.setTop (mkF m 388 #[.val (.int im), .val (.int ib), .val (.int i0), .val (.int i1), .val (.int i2), .val (.long ga), .second, .val (.int (1 : Int32)), .val (.int (1 : Int32)), .val (.int (0 : Int32)), .val (.ref b1), .val (.long (ib.toInt64)), .second, .val (.long f0), .second, .val (.long s1), .second, .val (.long f1), .second, .val (.long s2), .second, .val (.long f2), .second, .val (.ref b48), .val (.ref b52), .val (.ref b57), .val (.ref b153), .val (.long f1), .second] [(.double (FP.l2d f1)), (.double (FP.l2d f1))])) _
      refine XS.dcmpS X181.here hx rfl (hb hby at_388) rfl (v := (0 : Int32)) (own_cmp (rfl : f1 = f1)) ?_
      show Steps p.tables e below (T181.setTop (mkF m 389 #[.val (.int im), .val (.int ib), .val (.int i0), .val (.int i1), .val (.int i2), .val (.long ga), .second, .val (.int (1 : Int32)), .val (.int (1 : Int32)), .val (.int (0 : Int32)), .val (.ref b1), .val (.long (ib.toInt64)), .second, .val (.long f0), .second, .val (.long s1), .second, .val (.long f1), .second, .val (.long s2), .second, .val (.long f2), .second, .val (.ref b48), .val (.ref b52), .val (.ref b57), .val (.ref b153), .val (.long f1), .second] [(.int (0 : Int32))])) _
      refine XS.ifNo X181.here hx rfl (hb hby at_389) rfl ((if0 _ _).trans (teq (by decide : ((0 : Int32) = (0 : Int32)))).2) ?_
      refine XS.iconst X181.here hx rfl (hb hby at_392) ?_
      refine XS.goto X181.here hx rfl (pc0 := 393) (pc' := 397) rfl (hb hby at_393) (by decide) (by decide) ?_
      show Steps p.tables e below (T181.setTop (mkF m 397 #[.val (.int im), .val (.int ib), .val (.int i0), .val (.int i1), .val (.int i2), .val (.long ga), .second, .val (.int (1 : Int32)), .val (.int (1 : Int32)), .val (.int (0 : Int32)), .val (.ref b1), .val (.long (ib.toInt64)), .second, .val (.long f0), .second, .val (.long s1), .second, .val (.long f1), .second, .val (.long s2), .second, .val (.long f2), .second, .val (.ref b48), .val (.ref b52), .val (.ref b57), .val (.ref b153), .val (.long f1), .second] [(.int (1 : Int32))])) _
      exact retN X181 hx (t := .boolean) Bd.returns (by simp) (hb hby at_397) hr
    · show own_Q0 Z im ib i0 i1 i2 ga h0 n0 _ T181.heap _
      rw [e181]
      exact ⟨rfl, N181⟩
  · have k182 : ∀ tq, Steps p.tables e below (T160.setTop (mkF m 274 #[.val (.int im), .val (.int ib), .val (.int i0), .val (.int i1), .val (.int i2), .val (.long ga), .second, .val (.int (2 : Int32)), .val (.int (1 : Int32)), .val (.int (0 : Int32)), .val (.ref b1), .val (.long (ib.toInt64)), .second, .val (.long f0), .second, .val (.long s1), .second, .val (.long f1), .second, .val (.long s2), .second, .val (.long f2), .second, .val (.ref b48), .val (.ref b52), .val (.ref b57), .val (.ref b153), .unset, .unset] [])) tq → Steps p.tables e below (s₁.setTop (entryFrame m #[(.int im), (.int ib), (.int i0), (.int i1), (.int i2), (.long ga)] maxLocals)) tq := by
      intro tq kt
      refine k168 tq ?_
      rw [hn]
      exact kt
    obtain ⟨cq183, kq183, q183a, q183b, q183c⟩ := isOf hZ rfl Eo160
    obtain ⟨_, _, ⟨T183, L183, k183, n183⟩, -, X183, ⟨Lc183, hQ183, l183, y183, z183⟩, st183⟩ := X160.virtualBack hx (y := (⟨"com/example/makespun/makespun/simulate/Timeline", "add", "(II)V"⟩ : MethodName)) (z := (⟨"com/example/makespun/makespun/simulate/Timeline", "add", "(II)V"⟩ : MethodName)) hown (mvT hZ (hw _ (List.mem_of_getElem? (i := 27) rfl))) (mvT hZ (hw _ (List.mem_of_getElem? (i := 28) rfl))) (notFace_of_selects (args := #[]) (mvT hZ (hw _ (List.mem_of_getElem? (i := 30) rfl)))) (mvT hZ (hw _ (List.mem_of_getElem? (i := 30) rfl))) (mvT hZ (hw _ (List.mem_of_getElem? (i := 29) rfl))) (by decide) (backOf (W := 0) (rmA00 l Z a0 hw [] b153 bt160 b52 kb160 (0 : Int32) (0 : Int32) (0 : Int32) (0 : Int32) (0 : Int32) T160.heap n0 z166 Eo160 Ft160 Fs160 Ff160 Fi160 Vt160 ne_b153_bt160 g_b153 g_bt160) hZ (hw _ (List.mem_of_getElem? (i := 31) rfl)) (hw _ (List.mem_of_getElem? (i := 7) rfl)) (by decide) (by decide)) q183a q183c (g := (mkF m 284 #[.val (.int im), .val (.int ib), .val (.int i0), .val (.int i1), .val (.int i2), .val (.long ga), .second, .val (.int (2 : Int32)), .val (.int (1 : Int32)), .val (.int (0 : Int32)), .val (.ref b1), .val (.long (ib.toInt64)), .second, .val (.long f0), .second, .val (.long s1), .second, .val (.long f1), .second, .val (.long s2), .second, .val (.long f2), .second, .val (.ref b48), .val (.ref b52), .val (.ref b57), .val (.ref b153), .unset, .unset] [(.int (0 : Int32)), (.int (0 : Int32)), (.ref b153)])) rfl (by rw [hml]; rfl) (Steps.refl _) (argsL := [(.int (0 : Int32)), (.int (0 : Int32))]) (rest := []) (lenOf pd_3 rfl) rfl (by show 2 * 0 + _ ≤ _; exact Nat.le_of_eq rfl) (hb hby at_284) (fun _ _ => ⟨rfl, rfl, (by decide : 6 + 0 ≤ _), (by decide : 21 + 0 ≤ _)⟩)
    dsimp only [Pt.U, Pt.locs, Pt.cells, Pt.slots] at X183 l183 y183 z183 st183 hQ183
    replace X183 := own_cast X183 l183 y183 z183
    obtain ⟨hv183, N183q, K183, Eo183, Ft183, Fs183, Ff183, Fi183, Vt183⟩ := hQ183
    rw [hv183] at st183
    have N183 := Fr.app N160 N183q
    have f184 := f161.keep K183 (ninS ne_b1_b153 (ninS ne_b1_bt160 nin0))
    have f185 := f162.keep K183 (ninS ne_b48_b153 (ninS ne_b48_bt160 nin0))
    have f186 := f163.keep K183 (ninS ne_b52_b153 (ninS ne_b52_bt160 nin0))
    have f187 := f164.keep K183 (ninS ne_b57_b153 (ninS ne_b57_bt160 nin0))
    have f188 := Eo160.keep K183
    have z189 := Nat.le_trans z166 K183.1
    have kp190 := Keep.trans kp167 K183 (allS (Or.inr sz_b153) (allS (Or.inr sz_bt160) all0))
    obtain ⟨cq191, kq191, q191a, q191b, q191c⟩ := isOf hZ rfl Eo183
    obtain ⟨_, _, ⟨T191, L191, k191, n191⟩, -, X191, ⟨Lc191, hQ191, l191, y191, z191⟩, st191⟩ := X183.virtualBack hx (y := (⟨"com/example/makespun/makespun/simulate/Timeline", "add", "(II)V"⟩ : MethodName)) (z := (⟨"com/example/makespun/makespun/simulate/Timeline", "add", "(II)V"⟩ : MethodName)) hown (mvT hZ (hw _ (List.mem_of_getElem? (i := 27) rfl))) (mvT hZ (hw _ (List.mem_of_getElem? (i := 28) rfl))) (notFace_of_selects (args := #[]) (mvT hZ (hw _ (List.mem_of_getElem? (i := 30) rfl)))) (mvT hZ (hw _ (List.mem_of_getElem? (i := 30) rfl))) (mvT hZ (hw _ (List.mem_of_getElem? (i := 29) rfl))) (by decide) (backOf (W := 0) (rmA11 l Z a0 hw [] b153 bt160 b52 kb160 (1 : Int32) (0 : Int32) (0 : Int32) (0 : Int32) (0 : Int32) T183.heap n0 z189 Eo183 Ft183 Fs183 Ff183 Fi183 Vt183 ne_b153_bt160 g_b153 g_bt160) hZ (hw _ (List.mem_of_getElem? (i := 31) rfl)) (hw _ (List.mem_of_getElem? (i := 7) rfl)) (by decide) (by decide)) q191a q191c (g := (mkF m 306 #[.val (.int im), .val (.int ib), .val (.int i0), .val (.int i1), .val (.int i2), .val (.long ga), .second, .val (.int (2 : Int32)), .val (.int (1 : Int32)), .val (.int (0 : Int32)), .val (.ref b1), .val (.long (ib.toInt64)), .second, .val (.long f0), .second, .val (.long s1), .second, .val (.long f1), .second, .val (.long s2), .second, .val (.long f2), .second, .val (.ref b48), .val (.ref b52), .val (.ref b57), .val (.ref b153), .unset, .unset] [(.int (1 : Int32)), (.int (1 : Int32)), (.ref b153)])) rfl (by rw [hml]; rfl) (Steps.refl _) (argsL := [(.int (1 : Int32)), (.int (1 : Int32))]) (rest := []) (lenOf pd_3 rfl) rfl (by show 2 * 0 + _ ≤ _; exact Nat.le_of_eq rfl) (hb hby at_306) (fun _ _ => ⟨rfl, rfl, (by decide : 6 + 0 ≤ _), (by decide : 21 + 0 ≤ _)⟩)
    dsimp only [Pt.U, Pt.locs, Pt.cells, Pt.slots] at X191 l191 y191 z191 st191 hQ191
    replace X191 := own_cast X191 l191 y191 z191
    obtain ⟨hv191, N191q, K191, Eo191, Ft191, Fs191, Ff191, Fi191, Vt191⟩ := hQ191
    rw [hv191] at st191
    have N191 := Fr.app N183 N191q
    have f192 := f184.keep K191 (ninS ne_b1_b153 (ninS ne_b1_bt160 nin0))
    have f193 := f185.keep K191 (ninS ne_b48_b153 (ninS ne_b48_bt160 nin0))
    have f194 := f186.keep K191 (ninS ne_b52_b153 (ninS ne_b52_bt160 nin0))
    have f195 := f187.keep K191 (ninS ne_b57_b153 (ninS ne_b57_bt160 nin0))
    have f196 := Eo183.keep K191
    have z197 := Nat.le_trans z189 K191.1
    have kp198 := Keep.trans kp190 K191 (allS (Or.inr sz_b153) (allS (Or.inr sz_bt160) all0))
    obtain ⟨clq199, Arq199, cq199, Sq199, nq199, Hq199, Gq199⟩ := id f195
    have hiq199 : ¬ ((0 : Int32) < 0 ∨ clq199.slots.size ≤ ((0 : Int32)).toNatClampNeg) := inb_of Sq199 ⟨by decide, by decide⟩
    have haq199 : clq199.slots[((0 : Int32)).toNatClampNeg]? = some (.long f1) := Hq199.at hiq199 rfl
    obtain ⟨clq200, Arq200, cq200, Sq200, nq200, Hq200, Gq200⟩ := id f195
    have hiq200 : ¬ ((1 : Int32) < 0 ∨ clq200.slots.size ≤ ((1 : Int32)).toNatClampNeg) := inb_of Sq200 ⟨by decide, by decide⟩
    have haq200 : clq200.slots[((1 : Int32)).toNatClampNeg]? = some (.long f2) := Hq200.at hiq200 rfl
    obtain ⟨_, _, ⟨T201, L201, k201, n201⟩, -, X201, ⟨Lc201, hQ201, l201, y201, z201⟩, st201⟩ := Jvm.LawKit.callS X191 hx (y := (⟨"java/lang/Math", "max", "(JJ)J"⟩ : MethodName)) hown (mvT hZ (hw _ (List.mem_of_getElem? (i := 38) rfl))) (mvT hZ (hw _ (List.mem_of_getElem? (i := 39) rfl))) (mvT hZ (hw _ (List.mem_of_getElem? (i := 40) rfl))) (mvT hZ (hw _ (List.mem_of_getElem? (i := 41) rfl))) (by decide) (backOf (W := 0) (rmX l Z a0 hw [] f1 f2 T191.heap n0 z197) hZ (hw _ (List.mem_of_getElem? (i := 41) rfl)) (hw _ (List.mem_of_getElem? (i := 40) rfl)) (by decide) (by decide)) (g := (mkF m 358 #[.val (.int im), .val (.int ib), .val (.int i0), .val (.int i1), .val (.int i2), .val (.long ga), .second, .val (.int (2 : Int32)), .val (.int (1 : Int32)), .val (.int (0 : Int32)), .val (.ref b1), .val (.long (ib.toInt64)), .second, .val (.long f0), .second, .val (.long s1), .second, .val (.long f1), .second, .val (.long s2), .second, .val (.long f2), .second, .val (.ref b48), .val (.ref b52), .val (.ref b57), .val (.ref b153), .val (.long f1), .second] [(.long f2), (.long f1)])) rfl (by rw [hml]; rfl) (argsL := [(.long f1), (.long f2)]) (rest := []) (lenOf pd_4 rfl) rfl (by show 2 * 0 + _ ≤ _; exact Nat.le_of_eq rfl) (hb hby at_358) (fun _ _ => ⟨rfl, rfl, (by decide : 6 + 0 ≤ _), (by decide : 21 + 0 ≤ _)⟩)
    dsimp only [Pt.U, Pt.locs, Pt.cells, Pt.slots] at X201 l201 y201 z201 st201 hQ201
    replace X201 := own_cast X201 l201 y201 z201
    obtain ⟨hv201, N201q, e201⟩ := hQ201
    rw [hv201] at st201
    have N201 := Fr.app N191 N201q
    obtain ⟨cq202, kq202, q202a, q202b, q202c⟩ := isOf hZ e201 Eo191
    obtain ⟨_, _, ⟨T202, L202, k202, n202⟩, -, X202, ⟨Lc202, hQ202, l202, y202, z202⟩, st202⟩ := X201.virtualBack hx (y := (⟨"com/example/makespun/makespun/simulate/Timeline", "freeAt", "()D"⟩ : MethodName)) (z := (⟨"com/example/makespun/makespun/simulate/Timeline", "freeAt", "()D"⟩ : MethodName)) hown (mvT hZ (hw _ (List.mem_of_getElem? (i := 20) rfl))) (mvT hZ (hw _ (List.mem_of_getElem? (i := 21) rfl))) (notFace_of_selects (args := #[]) (mvT hZ (hw _ (List.mem_of_getElem? (i := 23) rfl)))) (mvT hZ (hw _ (List.mem_of_getElem? (i := 23) rfl))) (mvT hZ (hw _ (List.mem_of_getElem? (i := 22) rfl))) (by decide) (backOf (W := 0) (rmF21 l Z a0 hw [] b153 bt160 b52 kb160 k52 (0 : Int32) (0 : Int32) (0 : Int32) (FP.l2d f1) (FP.l2d f2) (FP.l2d f0) T191.heap n0 z197 Ft191 Fs191 Ff191 Vt191 f194) hZ (hw _ (List.mem_of_getElem? (i := 24) rfl)) (hw _ (List.mem_of_getElem? (i := 7) rfl)) (by decide) (by decide)) q202a q202c (g := (mkF m 382 #[.val (.int im), .val (.int ib), .val (.int i0), .val (.int i1), .val (.int i2), .val (.long ga), .second, .val (.int (2 : Int32)), .val (.int (1 : Int32)), .val (.int (0 : Int32)), .val (.ref b1), .val (.long (ib.toInt64)), .second, .val (.long f0), .second, .val (.long s1), .second, .val (.long f1), .second, .val (.long s2), .second, .val (.long f2), .second, .val (.ref b48), .val (.ref b52), .val (.ref b57), .val (.ref b153), .val (.long (own_max f1 f2)), .second] [(.ref b153)])) rfl (by rw [hml]; rfl) (Steps.refl _) (argsL := []) (rest := []) (lenOf pd_2 rfl) rfl (by show 2 * 0 + _ ≤ _; exact Nat.le_of_eq rfl) (hb hby at_382) (fun _ _ => ⟨rfl, e201, (by decide : 6 + 0 ≤ _), (by decide : 21 + 0 ≤ _)⟩)
    dsimp only [Pt.U, Pt.locs, Pt.cells, Pt.slots] at X202 l202 y202 z202 st202 hQ202
    replace X202 := own_cast X202 l202 y202 z202
    obtain ⟨hv202, N202q, e202⟩ := hQ202
    rw [hv202] at st202
    have N202 := Fr.app N201 N202q
    obtain ⟨fs, hr, hrun, hended, hW, hsame⟩ := X202.leave (v := some (.int (1 : Int32))) (fun h => by rw [Bd.returns] at h; cases h)
    refine ⟨_, _, k182 _ ?_, hrun, hended, _, _, rfl, ?_, ⟨_, rfl⟩, hW, hsame.mono (by decide) (by decide)⟩
    · refine XS.iload X160.here hx rfl (hb hby at_274) rfl ?_
      refine XS.iconst X160.here hx rfl (hb hby at_276) ?_
      show Steps p.tables e below (T160.setTop (mkF m 277 #[.val (.int im), .val (.int ib), .val (.int i0), .val (.int i1), .val (.int i2), .val (.long ga), .second, .val (.int (2 : Int32)), .val (.int (1 : Int32)), .val (.int (0 : Int32)), .val (.ref b1), .val (.long (ib.toInt64)), .second, .val (.long f0), .second, .val (.long s1), .second, .val (.long f1), .second, .val (.long s2), .second, .val (.long f2), .second, .val (.ref b48), .val (.ref b52), .val (.ref b57), .val (.ref b153), .unset, .unset] [(.int (1 : Int32)), (.int (2 : Int32))])) _
      refine XS.icmpNo X160.here hx rfl (hb hby at_277) rfl (flt (by decide : ¬ ((2 : Int32) < (1 : Int32)))).1 ?_
      refine XS.aload X160.here hx rfl (hb hby at_280) rfl rfl ?_
      show Steps p.tables e below (T160.setTop (mkF m 282 #[.val (.int im), .val (.int ib), .val (.int i0), .val (.int i1), .val (.int i2), .val (.long ga), .second, .val (.int (2 : Int32)), .val (.int (1 : Int32)), .val (.int (0 : Int32)), .val (.ref b1), .val (.long (ib.toInt64)), .second, .val (.long f0), .second, .val (.long s1), .second, .val (.long f1), .second, .val (.long s2), .second, .val (.long f2), .second, .val (.ref b48), .val (.ref b52), .val (.ref b57), .val (.ref b153), .unset, .unset] [(.ref b153)])) _
      refine XS.iconst X160.here hx rfl (hb hby at_282) ?_
      refine XS.iconst X160.here hx rfl (hb hby at_283) ?_
      refine st183.trans ?_
      refine XS.iload X183.here hx rfl (hb hby at_287) rfl ?_
      refine XS.iconst X183.here hx rfl (hb hby at_289) ?_
      show Steps p.tables e below (T183.setTop (mkF m 290 #[.val (.int im), .val (.int ib), .val (.int i0), .val (.int i1), .val (.int i2), .val (.long ga), .second, .val (.int (2 : Int32)), .val (.int (1 : Int32)), .val (.int (0 : Int32)), .val (.ref b1), .val (.long (ib.toInt64)), .second, .val (.long f0), .second, .val (.long s1), .second, .val (.long f1), .second, .val (.long s2), .second, .val (.long f2), .second, .val (.ref b48), .val (.ref b52), .val (.ref b57), .val (.ref b153), .unset, .unset] [(.int (2 : Int32)), (.int (2 : Int32))])) _
      refine XS.icmpNo X183.here hx rfl (hb hby at_290) rfl (flt (by decide : ¬ ((2 : Int32) < (2 : Int32)))).1 ?_
      refine XS.aload X183.here hx rfl (hb hby at_293) rfl rfl ?_
      show Steps p.tables e below (T183.setTop (mkF m 295 #[.val (.int im), .val (.int ib), .val (.int i0), .val (.int i1), .val (.int i2), .val (.long ga), .second, .val (.int (2 : Int32)), .val (.int (1 : Int32)), .val (.int (0 : Int32)), .val (.ref b1), .val (.long (ib.toInt64)), .second, .val (.long f0), .second, .val (.long s1), .second, .val (.long f1), .second, .val (.long s2), .second, .val (.long f2), .second, .val (.ref b48), .val (.ref b52), .val (.ref b57), .val (.ref b153), .unset, .unset] [(.ref b153)])) _
      refine XS.iload X183.here hx rfl (hb hby at_295) rfl ?_
      show Steps p.tables e below (T183.setTop (mkF m 297 #[.val (.int im), .val (.int ib), .val (.int i0), .val (.int i1), .val (.int i2), .val (.long ga), .second, .val (.int (2 : Int32)), .val (.int (1 : Int32)), .val (.int (0 : Int32)), .val (.ref b1), .val (.long (ib.toInt64)), .second, .val (.long f0), .second, .val (.long s1), .second, .val (.long f1), .second, .val (.long s2), .second, .val (.long f2), .second, .val (.ref b48), .val (.ref b52), .val (.ref b57), .val (.ref b153), .unset, .unset] [(.int (1 : Int32)), (.ref b153)])) _
      refine XS.ifNo X183.here hx rfl (hb hby at_297) rfl ((if0 _ _).trans (feq (by decide : ¬ ((1 : Int32) = (0 : Int32)))).1) ?_
      refine XS.iconst X183.here hx rfl (hb hby at_300) ?_
      refine XS.goto X183.here hx rfl (pc0 := 301) (pc' := 305) rfl (hb hby at_301) (by decide) (by decide) ?_
      refine XS.iconst X183.here hx rfl (hb hby at_305) ?_
      refine st191.trans ?_
      refine XS.iload X191.here hx rfl (hb hby at_309) rfl ?_
      show Steps p.tables e below (T191.setTop (mkF m 311 #[.val (.int im), .val (.int ib), .val (.int i0), .val (.int i1), .val (.int i2), .val (.long ga), .second, .val (.int (2 : Int32)), .val (.int (1 : Int32)), .val (.int (0 : Int32)), .val (.ref b1), .val (.long (ib.toInt64)), .second, .val (.long f0), .second, .val (.long s1), .second, .val (.long f1), .second, .val (.long s2), .second, .val (.long f2), .second, .val (.ref b48), .val (.ref b52), .val (.ref b57), .val (.ref b153), .unset, .unset] [(.int (2 : Int32))])) _
      refine XS.iconst X191.here hx rfl (hb hby at_311) ?_
      show Steps p.tables e below (T191.setTop (mkF m 312 #[.val (.int im), .val (.int ib), .val (.int i0), .val (.int i1), .val (.int i2), .val (.long ga), .second, .val (.int (2 : Int32)), .val (.int (1 : Int32)), .val (.int (0 : Int32)), .val (.ref b1), .val (.long (ib.toInt64)), .second, .val (.long f0), .second, .val (.long s1), .second, .val (.long f1), .second, .val (.long s2), .second, .val (.long f2), .second, .val (.ref b48), .val (.ref b52), .val (.ref b57), .val (.ref b153), .unset, .unset] [(.int (3 : Int32)), (.int (2 : Int32))])) _
      refine XS.icmpYes X191.here hx rfl (pc0 := 312) (pc' := 331) rfl (hb hby at_312) rfl (feq (by decide : ¬ ((2 : Int32) = (3 : Int32)))).2 (by decide) (by decide) ?_
      refine XS.lconst X191.here hx rfl (hb hby at_331) ?_
      refine XS.lstore X191.here hx rfl (hb hby at_332) rfl (l' := #[.val (.int im), .val (.int ib), .val (.int i0), .val (.int i1), .val (.int i2), .val (.long ga), .second, .val (.int (2 : Int32)), .val (.int (1 : Int32)), .val (.int (0 : Int32)), .val (.ref b1), .val (.long (ib.toInt64)), .second, .val (.long f0), .second, .val (.long s1), .second, .val (.long f1), .second, .val (.long s2), .second, .val (.long f2), .second, .val (.ref b48), .val (.ref b52), .val (.ref b57), .val (.ref b153), .val (.long (0 : Int64)), .second]) rfl ?_
      refine XS.iload X191.here hx rfl (hb hby at_334) rfl ?_
      refine XS.iconst X191.here hx rfl (hb hby at_336) ?_
      show Steps p.tables e below (T191.setTop (mkF m 337 #[.val (.int im), .val (.int ib), .val (.int i0), .val (.int i1), .val (.int i2), .val (.long ga), .second, .val (.int (2 : Int32)), .val (.int (1 : Int32)), .val (.int (0 : Int32)), .val (.ref b1), .val (.long (ib.toInt64)), .second, .val (.long f0), .second, .val (.long s1), .second, .val (.long f1), .second, .val (.long s2), .second, .val (.long f2), .second, .val (.ref b48), .val (.ref b52), .val (.ref b57), .val (.ref b153), .val (.long (0 : Int64)), .second] [(.int (1 : Int32)), (.int (2 : Int32))])) _
      refine XS.icmpNo X191.here hx rfl (hb hby at_337) rfl (flt (by decide : ¬ ((2 : Int32) < (1 : Int32)))).1 ?_
      refine XS.aload X191.here hx rfl (hb hby at_340) rfl rfl ?_
      show Steps p.tables e below (T191.setTop (mkF m 342 #[.val (.int im), .val (.int ib), .val (.int i0), .val (.int i1), .val (.int i2), .val (.long ga), .second, .val (.int (2 : Int32)), .val (.int (1 : Int32)), .val (.int (0 : Int32)), .val (.ref b1), .val (.long (ib.toInt64)), .second, .val (.long f0), .second, .val (.long s1), .second, .val (.long f1), .second, .val (.long s2), .second, .val (.long f2), .second, .val (.ref b48), .val (.ref b52), .val (.ref b57), .val (.ref b153), .val (.long (0 : Int64)), .second] [(.ref b57)])) _
      refine XS.iconst X191.here hx rfl (hb hby at_342) ?_
      refine X191.laload hx (j := (0 : Int32)) (v := (.long f1)) (by exact Arq199.1) (State.isArrayOf_alike hZ.alike Arq199.2.1) Arq199.2.2 hiq199 haq199 (g := (mkF m 343 #[.val (.int im), .val (.int ib), .val (.int i0), .val (.int i1), .val (.int i2), .val (.long ga), .second, .val (.int (2 : Int32)), .val (.int (1 : Int32)), .val (.int (0 : Int32)), .val (.ref b1), .val (.long (ib.toInt64)), .second, .val (.long f0), .second, .val (.long s1), .second, .val (.long f1), .second, .val (.long s2), .second, .val (.long f2), .second, .val (.ref b48), .val (.ref b52), .val (.ref b57), .val (.ref b153), .val (.long (0 : Int64)), .second] [(.int (0 : Int32)), (.ref b57)])) rfl rfl (hb hby at_343) _ ?_
      refine XS.lstore X191.here hx rfl (hb hby at_344) rfl (l' := #[.val (.int im), .val (.int ib), .val (.int i0), .val (.int i1), .val (.int i2), .val (.long ga), .second, .val (.int (2 : Int32)), .val (.int (1 : Int32)), .val (.int (0 : Int32)), .val (.ref b1), .val (.long (ib.toInt64)), .second, .val (.long f0), .second, .val (.long s1), .second, .val (.long f1), .second, .val (.long s2), .second, .val (.long f2), .second, .val (.ref b48), .val (.ref b52), .val (.ref b57), .val (.ref b153), .val (.long f1), .second]) rfl ?_
      refine XS.iload X191.here hx rfl (hb hby at_346) rfl ?_
      refine XS.iconst X191.here hx rfl (hb hby at_348) ?_
      show Steps p.tables e below (T191.setTop (mkF m 349 #[.val (.int im), .val (.int ib), .val (.int i0), .val (.int i1), .val (.int i2), .val (.long ga), .second, .val (.int (2 : Int32)), .val (.int (1 : Int32)), .val (.int (0 : Int32)), .val (.ref b1), .val (.long (ib.toInt64)), .second, .val (.long f0), .second, .val (.long s1), .second, .val (.long f1), .second, .val (.long s2), .second, .val (.long f2), .second, .val (.ref b48), .val (.ref b52), .val (.ref b57), .val (.ref b153), .val (.long f1), .second] [(.int (2 : Int32)), (.int (2 : Int32))])) _
      refine XS.icmpNo X191.here hx rfl (hb hby at_349) rfl (flt (by decide : ¬ ((2 : Int32) < (2 : Int32)))).1 ?_
      refine XS.lload X191.here hx rfl (hb hby at_352) rfl ?_
      show Steps p.tables e below (T191.setTop (mkF m 354 #[.val (.int im), .val (.int ib), .val (.int i0), .val (.int i1), .val (.int i2), .val (.long ga), .second, .val (.int (2 : Int32)), .val (.int (1 : Int32)), .val (.int (0 : Int32)), .val (.ref b1), .val (.long (ib.toInt64)), .second, .val (.long f0), .second, .val (.long s1), .second, .val (.long f1), .second, .val (.long s2), .second, .val (.long f2), .second, .val (.ref b48), .val (.ref b52), .val (.ref b57), .val (.ref b153), .val (.long f1), .second] [(.long f1)])) _
      refine XS.aload X191.here hx rfl (hb hby at_354) rfl rfl ?_
      refine XS.iconst X191.here hx rfl (hb hby at_356) ?_
      refine X191.laload hx (j := (1 : Int32)) (v := (.long f2)) (by exact Arq200.1) (State.isArrayOf_alike hZ.alike Arq200.2.1) Arq200.2.2 hiq200 haq200 (g := (mkF m 357 #[.val (.int im), .val (.int ib), .val (.int i0), .val (.int i1), .val (.int i2), .val (.long ga), .second, .val (.int (2 : Int32)), .val (.int (1 : Int32)), .val (.int (0 : Int32)), .val (.ref b1), .val (.long (ib.toInt64)), .second, .val (.long f0), .second, .val (.long s1), .second, .val (.long f1), .second, .val (.long s2), .second, .val (.long f2), .second, .val (.ref b48), .val (.ref b52), .val (.ref b57), .val (.ref b153), .val (.long f1), .second] [(.int (1 : Int32)), (.ref b57), (.long f1)])) rfl rfl (hb hby at_357) _ ?_
      refine st201 _ ?_
      refine XS.lstore X201.here hx rfl (hb hby at_361) rfl (l' := #[.val (.int im), .val (.int ib), .val (.int i0), .val (.int i1), .val (.int i2), .val (.long ga), .second, .val (.int (2 : Int32)), .val (.int (1 : Int32)), .val (.int (0 : Int32)), .val (.ref b1), .val (.long (ib.toInt64)), .second, .val (.long f0), .second, .val (.long s1), .second, .val (.long f1), .second, .val (.long s2), .second, .val (.long f2), .second, .val (.ref b48), .val (.ref b52), .val (.ref b57), .val (.ref b153), .val (.long (own_max f1 f2)), .second]) rfl ?_
      refine XS.iload X201.here hx rfl (hb hby at_363) rfl ?_
      show Steps p.tables e below (T201.setTop (mkF m 365 #[.val (.int im), .val (.int ib), .val (.int i0), .val (.int i1), .val (.int i2), .val (.long ga), .second, .val (.int (2 : Int32)), .val (.int (1 : Int32)), .val (.int (0 : Int32)), .val (.ref b1), .val (.long (ib.toInt64)), .second, .val (.long f0), .second, .val (.long s1), .second, .val (.long f1), .second, .val (.long s2), .second, .val (.long f2), .second, .val (.ref b48), .val (.ref b52), .val (.ref b57), .val (.ref b153), .val (.long (own_max f1 f2)), .second] [(.int (2 : Int32))])) _
      refine XS.iconst X201.here hx rfl (hb hby at_365) ?_
      show Steps p.tables e below (T201.setTop (mkF m 366 #[.val (.int im), .val (.int ib), .val (.int i0), .val (.int i1), .val (.int i2), .val (.long ga), .second, .val (.int (2 : Int32)), .val (.int (1 : Int32)), .val (.int (0 : Int32)), .val (.ref b1), .val (.long (ib.toInt64)), .second, .val (.long f0), .second, .val (.long s1), .second, .val (.long f1), .second, .val (.long s2), .second, .val (.long f2), .second, .val (.ref b48), .val (.ref b52), .val (.ref b57), .val (.ref b153), .val (.long (own_max f1 f2)), .second] [(.int (3 : Int32)), (.int (2 : Int32))])) _
      refine XS.icmpYes X201.here hx rfl (pc0 := 366) (pc' := 380) rfl (hb hby at_366) rfl (feq (by decide : ¬ ((2 : Int32) = (3 : Int32)))).2 (by decide) (by decide) ?_
      refine XS.aload X201.here hx rfl (hb hby at_380) rfl rfl ?_
      refine st202.trans ?_
      refine XS.lload X202.here hx rfl (hb hby at_385) rfl ?_
      show Steps p.tables e below (T202.setTop (mkF m 387 #[.val (.int im), .val (.int ib), .val (.int i0), .val (.int i1), .val (.int i2), .val (.long ga), .second, .val (.int (2 : Int32)), .val (.int (1 : Int32)), .val (.int (0 : Int32)), .val (.ref b1), .val (.long (ib.toInt64)), .second, .val (.long f0), .second, .val (.long s1), .second, .val (.long f1), .second, .val (.long s2), .second, .val (.long f2), .second, .val (.ref b48), .val (.ref b52), .val (.ref b57), .val (.ref b153), .val (.long (own_max f1 f2)), .second] [(.long (own_max f1 f2)), (.double (FP.l2d f2))])) _
      refine XS.l2dS X202.here hx rfl (hb hby at_387) rfl rfl ?_
      show Steps p.tables e below (T202.setTop (mkF m 388 #[.val (.int im), .val (.int ib), .val (.int i0), .val (.int i1), .val (.int i2), .val (.long ga), .second, .val (.int (2 : Int32)), .val (.int (1 : Int32)), .val (.int (0 : Int32)), .val (.ref b1), .val (.long (ib.toInt64)), .second, .val (.long f0), .second, .val (.long s1), .second, .val (.long f1), .second, .val (.long s2), .second, .val (.long f2), .second, .val (.ref b48), .val (.ref b52), .val (.ref b57), .val (.ref b153), .val (.long (own_max f1 f2)), .second] [(.double (FP.l2d (own_max f1 f2))), (.double (FP.l2d f2))])) _
      refine XS.dcmpS X202.here hx rfl (hb hby at_388) rfl (v := (0 : Int32)) (own_cmp (show f2 = (own_max f1 f2) from ((congrArg (fun z => own_max z f2) rfl).trans (own_max_r ho.2.1)).symm)) ?_
      show Steps p.tables e below (T202.setTop (mkF m 389 #[.val (.int im), .val (.int ib), .val (.int i0), .val (.int i1), .val (.int i2), .val (.long ga), .second, .val (.int (2 : Int32)), .val (.int (1 : Int32)), .val (.int (0 : Int32)), .val (.ref b1), .val (.long (ib.toInt64)), .second, .val (.long f0), .second, .val (.long s1), .second, .val (.long f1), .second, .val (.long s2), .second, .val (.long f2), .second, .val (.ref b48), .val (.ref b52), .val (.ref b57), .val (.ref b153), .val (.long (own_max f1 f2)), .second] [(.int (0 : Int32))])) _
      refine XS.ifNo X202.here hx rfl (hb hby at_389) rfl ((if0 _ _).trans (teq (by decide : ((0 : Int32) = (0 : Int32)))).2) ?_
      refine XS.iconst X202.here hx rfl (hb hby at_392) ?_
      show Steps p.tables e below (T202.setTop (mkF m 393 #[.val (.int im), .val (.int ib), .val (.int i0), .val (.int i1), .val (.int i2), .val (.long ga), .second, .val (.int (2 : Int32)), .val (.int (1 : Int32)), .val (.int (0 : Int32)), .val (.ref b1), .val (.long (ib.toInt64)), .second, .val (.long f0), .second, .val (.long s1), .second, .val (.long f1), .second, .val (.long s2), .second, .val (.long f2), .second, .val (.ref b48), .val (.ref b52), .val (.ref b57), .val (.ref b153), .val (.long (own_max f1 f2)), .second] [(.int (1 : Int32))])) _
      refine XS.goto X202.here hx rfl (pc0 := 393) (pc' := 397) rfl (hb hby at_393) (by decide) (by decide) ?_
      show Steps p.tables e below (T202.setTop (mkF m 397 #[.val (.int im), .val (.int ib), .val (.int i0), .val (.int i1), .val (.int i2), .val (.long ga), .second, .val (.int (2 : Int32)), .val (.int (1 : Int32)), .val (.int (0 : Int32)), .val (.ref b1), .val (.long (ib.toInt64)), .second, .val (.long f0), .second, .val (.long s1), .second, .val (.long f1), .second, .val (.long s2), .second, .val (.long f2), .second, .val (.ref b48), .val (.ref b52), .val (.ref b57), .val (.ref b153), .val (.long (own_max f1 f2)), .second] [(.int (1 : Int32))])) _
      exact retN X202 hx (t := .boolean) Bd.returns (by simp) (hb hby at_397) hr
    · show own_Q0 Z im ib i0 i1 i2 ga h0 n0 _ T202.heap _
      rw [e202]
      exact ⟨rfl, N202⟩
  · have k203 : ∀ tq, Steps p.tables e below (T160.setTop (mkF m 274 #[.val (.int im), .val (.int ib), .val (.int i0), .val (.int i1), .val (.int i2), .val (.long ga), .second, .val (.int (3 : Int32)), .val (.int (1 : Int32)), .val (.int (0 : Int32)), .val (.ref b1), .val (.long (ib.toInt64)), .second, .val (.long f0), .second, .val (.long s1), .second, .val (.long f1), .second, .val (.long s2), .second, .val (.long f2), .second, .val (.ref b48), .val (.ref b52), .val (.ref b57), .val (.ref b153), .unset, .unset] [])) tq → Steps p.tables e below (s₁.setTop (entryFrame m #[(.int im), (.int ib), (.int i0), (.int i1), (.int i2), (.long ga)] maxLocals)) tq := by
      intro tq kt
      refine k168 tq ?_
      rw [hn]
      exact kt
    obtain ⟨cq204, kq204, q204a, q204b, q204c⟩ := isOf hZ rfl Eo160
    obtain ⟨_, _, ⟨T204, L204, k204, n204⟩, -, X204, ⟨Lc204, hQ204, l204, y204, z204⟩, st204⟩ := X160.virtualBack hx (y := (⟨"com/example/makespun/makespun/simulate/Timeline", "add", "(II)V"⟩ : MethodName)) (z := (⟨"com/example/makespun/makespun/simulate/Timeline", "add", "(II)V"⟩ : MethodName)) hown (mvT hZ (hw _ (List.mem_of_getElem? (i := 27) rfl))) (mvT hZ (hw _ (List.mem_of_getElem? (i := 28) rfl))) (notFace_of_selects (args := #[]) (mvT hZ (hw _ (List.mem_of_getElem? (i := 30) rfl)))) (mvT hZ (hw _ (List.mem_of_getElem? (i := 30) rfl))) (mvT hZ (hw _ (List.mem_of_getElem? (i := 29) rfl))) (by decide) (backOf (W := 0) (rmA00 l Z a0 hw [] b153 bt160 b52 kb160 (0 : Int32) (0 : Int32) (0 : Int32) (0 : Int32) (0 : Int32) T160.heap n0 z166 Eo160 Ft160 Fs160 Ff160 Fi160 Vt160 ne_b153_bt160 g_b153 g_bt160) hZ (hw _ (List.mem_of_getElem? (i := 31) rfl)) (hw _ (List.mem_of_getElem? (i := 7) rfl)) (by decide) (by decide)) q204a q204c (g := (mkF m 284 #[.val (.int im), .val (.int ib), .val (.int i0), .val (.int i1), .val (.int i2), .val (.long ga), .second, .val (.int (3 : Int32)), .val (.int (1 : Int32)), .val (.int (0 : Int32)), .val (.ref b1), .val (.long (ib.toInt64)), .second, .val (.long f0), .second, .val (.long s1), .second, .val (.long f1), .second, .val (.long s2), .second, .val (.long f2), .second, .val (.ref b48), .val (.ref b52), .val (.ref b57), .val (.ref b153), .unset, .unset] [(.int (0 : Int32)), (.int (0 : Int32)), (.ref b153)])) rfl (by rw [hml]; rfl) (Steps.refl _) (argsL := [(.int (0 : Int32)), (.int (0 : Int32))]) (rest := []) (lenOf pd_3 rfl) rfl (by show 2 * 0 + _ ≤ _; exact Nat.le_of_eq rfl) (hb hby at_284) (fun _ _ => ⟨rfl, rfl, (by decide : 6 + 0 ≤ _), (by decide : 21 + 0 ≤ _)⟩)
    dsimp only [Pt.U, Pt.locs, Pt.cells, Pt.slots] at X204 l204 y204 z204 st204 hQ204
    replace X204 := own_cast X204 l204 y204 z204
    obtain ⟨hv204, N204q, K204, Eo204, Ft204, Fs204, Ff204, Fi204, Vt204⟩ := hQ204
    rw [hv204] at st204
    have N204 := Fr.app N160 N204q
    have f205 := f161.keep K204 (ninS ne_b1_b153 (ninS ne_b1_bt160 nin0))
    have f206 := f162.keep K204 (ninS ne_b48_b153 (ninS ne_b48_bt160 nin0))
    have f207 := f163.keep K204 (ninS ne_b52_b153 (ninS ne_b52_bt160 nin0))
    have f208 := f164.keep K204 (ninS ne_b57_b153 (ninS ne_b57_bt160 nin0))
    have f209 := Eo160.keep K204
    have z210 := Nat.le_trans z166 K204.1
    have kp211 := Keep.trans kp167 K204 (allS (Or.inr sz_b153) (allS (Or.inr sz_bt160) all0))
    obtain ⟨cq212, kq212, q212a, q212b, q212c⟩ := isOf hZ rfl Eo204
    obtain ⟨_, _, ⟨T212, L212, k212, n212⟩, -, X212, ⟨Lc212, hQ212, l212, y212, z212⟩, st212⟩ := X204.virtualBack hx (y := (⟨"com/example/makespun/makespun/simulate/Timeline", "add", "(II)V"⟩ : MethodName)) (z := (⟨"com/example/makespun/makespun/simulate/Timeline", "add", "(II)V"⟩ : MethodName)) hown (mvT hZ (hw _ (List.mem_of_getElem? (i := 27) rfl))) (mvT hZ (hw _ (List.mem_of_getElem? (i := 28) rfl))) (notFace_of_selects (args := #[]) (mvT hZ (hw _ (List.mem_of_getElem? (i := 30) rfl)))) (mvT hZ (hw _ (List.mem_of_getElem? (i := 30) rfl))) (mvT hZ (hw _ (List.mem_of_getElem? (i := 29) rfl))) (by decide) (backOf (W := 0) (rmA11 l Z a0 hw [] b153 bt160 b52 kb160 (1 : Int32) (0 : Int32) (0 : Int32) (0 : Int32) (0 : Int32) T204.heap n0 z210 Eo204 Ft204 Fs204 Ff204 Fi204 Vt204 ne_b153_bt160 g_b153 g_bt160) hZ (hw _ (List.mem_of_getElem? (i := 31) rfl)) (hw _ (List.mem_of_getElem? (i := 7) rfl)) (by decide) (by decide)) q212a q212c (g := (mkF m 306 #[.val (.int im), .val (.int ib), .val (.int i0), .val (.int i1), .val (.int i2), .val (.long ga), .second, .val (.int (3 : Int32)), .val (.int (1 : Int32)), .val (.int (0 : Int32)), .val (.ref b1), .val (.long (ib.toInt64)), .second, .val (.long f0), .second, .val (.long s1), .second, .val (.long f1), .second, .val (.long s2), .second, .val (.long f2), .second, .val (.ref b48), .val (.ref b52), .val (.ref b57), .val (.ref b153), .unset, .unset] [(.int (1 : Int32)), (.int (1 : Int32)), (.ref b153)])) rfl (by rw [hml]; rfl) (Steps.refl _) (argsL := [(.int (1 : Int32)), (.int (1 : Int32))]) (rest := []) (lenOf pd_3 rfl) rfl (by show 2 * 0 + _ ≤ _; exact Nat.le_of_eq rfl) (hb hby at_306) (fun _ _ => ⟨rfl, rfl, (by decide : 6 + 0 ≤ _), (by decide : 21 + 0 ≤ _)⟩)
    dsimp only [Pt.U, Pt.locs, Pt.cells, Pt.slots] at X212 l212 y212 z212 st212 hQ212
    replace X212 := own_cast X212 l212 y212 z212
    obtain ⟨hv212, N212q, K212, Eo212, Ft212, Fs212, Ff212, Fi212, Vt212⟩ := hQ212
    rw [hv212] at st212
    have N212 := Fr.app N204 N212q
    have f213 := f205.keep K212 (ninS ne_b1_b153 (ninS ne_b1_bt160 nin0))
    have f214 := f206.keep K212 (ninS ne_b48_b153 (ninS ne_b48_bt160 nin0))
    have f215 := f207.keep K212 (ninS ne_b52_b153 (ninS ne_b52_bt160 nin0))
    have f216 := f208.keep K212 (ninS ne_b57_b153 (ninS ne_b57_bt160 nin0))
    have f217 := Eo204.keep K212
    have z218 := Nat.le_trans z210 K212.1
    have kp219 := Keep.trans kp211 K212 (allS (Or.inr sz_b153) (allS (Or.inr sz_bt160) all0))
    obtain ⟨cq220, kq220, q220a, q220b, q220c⟩ := isOf hZ rfl Eo212
    obtain ⟨_, _, ⟨T220, L220, k220, n220⟩, -, X220, ⟨Lc220, hQ220, l220, y220, z220⟩, st220⟩ := X212.virtualBack hx (y := (⟨"com/example/makespun/makespun/simulate/Timeline", "add", "(II)V"⟩ : MethodName)) (z := (⟨"com/example/makespun/makespun/simulate/Timeline", "add", "(II)V"⟩ : MethodName)) hown (mvT hZ (hw _ (List.mem_of_getElem? (i := 27) rfl))) (mvT hZ (hw _ (List.mem_of_getElem? (i := 28) rfl))) (notFace_of_selects (args := #[]) (mvT hZ (hw _ (List.mem_of_getElem? (i := 30) rfl)))) (mvT hZ (hw _ (List.mem_of_getElem? (i := 30) rfl))) (mvT hZ (hw _ (List.mem_of_getElem? (i := 29) rfl))) (by decide) (backOf (W := 0) (rmA02 l Z a0 hw [] b153 bt160 b52 kb160 (2 : Int32) (0 : Int32) (1 : Int32) (0 : Int32) (0 : Int32) T212.heap n0 z218 Eo212 Ft212 Fs212 Ff212 Fi212 Vt212 ne_b153_bt160 g_b153 g_bt160) hZ (hw _ (List.mem_of_getElem? (i := 31) rfl)) (hw _ (List.mem_of_getElem? (i := 7) rfl)) (by decide) (by decide)) q220a q220c (g := (mkF m 328 #[.val (.int im), .val (.int ib), .val (.int i0), .val (.int i1), .val (.int i2), .val (.long ga), .second, .val (.int (3 : Int32)), .val (.int (1 : Int32)), .val (.int (0 : Int32)), .val (.ref b1), .val (.long (ib.toInt64)), .second, .val (.long f0), .second, .val (.long s1), .second, .val (.long f1), .second, .val (.long s2), .second, .val (.long f2), .second, .val (.ref b48), .val (.ref b52), .val (.ref b57), .val (.ref b153), .unset, .unset] [(.int (2 : Int32)), (.int (0 : Int32)), (.ref b153)])) rfl (by rw [hml]; rfl) (Steps.refl _) (argsL := [(.int (0 : Int32)), (.int (2 : Int32))]) (rest := []) (lenOf pd_3 rfl) rfl (by show 2 * 0 + _ ≤ _; exact Nat.le_of_eq rfl) (hb hby at_328) (fun _ _ => ⟨rfl, rfl, (by decide : 6 + 0 ≤ _), (by decide : 21 + 0 ≤ _)⟩)
    dsimp only [Pt.U, Pt.locs, Pt.cells, Pt.slots] at X220 l220 y220 z220 st220 hQ220
    replace X220 := own_cast X220 l220 y220 z220
    obtain ⟨hv220, N220q, K220, Eo220, Ft220, Fs220, Ff220, Fi220, Vt220⟩ := hQ220
    rw [hv220] at st220
    have N220 := Fr.app N212 N220q
    have f221 := f213.keep K220 (ninS ne_b1_b153 (ninS ne_b1_bt160 nin0))
    have f222 := f214.keep K220 (ninS ne_b48_b153 (ninS ne_b48_bt160 nin0))
    have f223 := f215.keep K220 (ninS ne_b52_b153 (ninS ne_b52_bt160 nin0))
    have f224 := f216.keep K220 (ninS ne_b57_b153 (ninS ne_b57_bt160 nin0))
    have f225 := Eo212.keep K220
    have z226 := Nat.le_trans z218 K220.1
    have kp227 := Keep.trans kp219 K220 (allS (Or.inr sz_b153) (allS (Or.inr sz_bt160) all0))
    obtain ⟨clq228, Arq228, cq228, Sq228, nq228, Hq228, Gq228⟩ := id f224
    have hiq228 : ¬ ((0 : Int32) < 0 ∨ clq228.slots.size ≤ ((0 : Int32)).toNatClampNeg) := inb_of Sq228 ⟨by decide, by decide⟩
    have haq228 : clq228.slots[((0 : Int32)).toNatClampNeg]? = some (.long f1) := Hq228.at hiq228 rfl
    obtain ⟨clq229, Arq229, cq229, Sq229, nq229, Hq229, Gq229⟩ := id f224
    have hiq229 : ¬ ((1 : Int32) < 0 ∨ clq229.slots.size ≤ ((1 : Int32)).toNatClampNeg) := inb_of Sq229 ⟨by decide, by decide⟩
    have haq229 : clq229.slots[((1 : Int32)).toNatClampNeg]? = some (.long f2) := Hq229.at hiq229 rfl
    obtain ⟨_, _, ⟨T230, L230, k230, n230⟩, -, X230, ⟨Lc230, hQ230, l230, y230, z230⟩, st230⟩ := Jvm.LawKit.callS X220 hx (y := (⟨"java/lang/Math", "max", "(JJ)J"⟩ : MethodName)) hown (mvT hZ (hw _ (List.mem_of_getElem? (i := 38) rfl))) (mvT hZ (hw _ (List.mem_of_getElem? (i := 39) rfl))) (mvT hZ (hw _ (List.mem_of_getElem? (i := 40) rfl))) (mvT hZ (hw _ (List.mem_of_getElem? (i := 41) rfl))) (by decide) (backOf (W := 0) (rmX l Z a0 hw [] f1 f2 T220.heap n0 z226) hZ (hw _ (List.mem_of_getElem? (i := 41) rfl)) (hw _ (List.mem_of_getElem? (i := 40) rfl)) (by decide) (by decide)) (g := (mkF m 358 #[.val (.int im), .val (.int ib), .val (.int i0), .val (.int i1), .val (.int i2), .val (.long ga), .second, .val (.int (3 : Int32)), .val (.int (1 : Int32)), .val (.int (0 : Int32)), .val (.ref b1), .val (.long (ib.toInt64)), .second, .val (.long f0), .second, .val (.long s1), .second, .val (.long f1), .second, .val (.long s2), .second, .val (.long f2), .second, .val (.ref b48), .val (.ref b52), .val (.ref b57), .val (.ref b153), .val (.long f1), .second] [(.long f2), (.long f1)])) rfl (by rw [hml]; rfl) (argsL := [(.long f1), (.long f2)]) (rest := []) (lenOf pd_4 rfl) rfl (by show 2 * 0 + _ ≤ _; exact Nat.le_of_eq rfl) (hb hby at_358) (fun _ _ => ⟨rfl, rfl, (by decide : 6 + 0 ≤ _), (by decide : 21 + 0 ≤ _)⟩)
    dsimp only [Pt.U, Pt.locs, Pt.cells, Pt.slots] at X230 l230 y230 z230 st230 hQ230
    replace X230 := own_cast X230 l230 y230 z230
    obtain ⟨hv230, N230q, e230⟩ := hQ230
    rw [hv230] at st230
    have N230 := Fr.app N220 N230q
    obtain ⟨clq231, Arq231, cq231, Sq231, nq231, Hq231, Gq231⟩ := id f224
    have hiq231 : ¬ ((2 : Int32) < 0 ∨ clq231.slots.size ≤ ((2 : Int32)).toNatClampNeg) := inb_of Sq231 ⟨by decide, by decide⟩
    have haq231 : clq231.slots[((2 : Int32)).toNatClampNeg]? = some (.long f0) := Hq231.at hiq231 rfl
    obtain ⟨_, _, ⟨T232, L232, k232, n232⟩, -, X232, ⟨Lc232, hQ232, l232, y232, z232⟩, st232⟩ := Jvm.LawKit.callS X230 hx (y := (⟨"java/lang/Math", "max", "(JJ)J"⟩ : MethodName)) hown (mvT hZ (hw _ (List.mem_of_getElem? (i := 38) rfl))) (mvT hZ (hw _ (List.mem_of_getElem? (i := 39) rfl))) (mvT hZ (hw _ (List.mem_of_getElem? (i := 40) rfl))) (mvT hZ (hw _ (List.mem_of_getElem? (i := 41) rfl))) (by decide) (backOf (W := 0) (rmX l Z a0 hw [] (own_max f1 f2) f0 T220.heap n0 z226) hZ (hw _ (List.mem_of_getElem? (i := 41) rfl)) (hw _ (List.mem_of_getElem? (i := 40) rfl)) (by decide) (by decide)) (g := (mkF m 375 #[.val (.int im), .val (.int ib), .val (.int i0), .val (.int i1), .val (.int i2), .val (.long ga), .second, .val (.int (3 : Int32)), .val (.int (1 : Int32)), .val (.int (0 : Int32)), .val (.ref b1), .val (.long (ib.toInt64)), .second, .val (.long f0), .second, .val (.long s1), .second, .val (.long f1), .second, .val (.long s2), .second, .val (.long f2), .second, .val (.ref b48), .val (.ref b52), .val (.ref b57), .val (.ref b153), .val (.long (own_max f1 f2)), .second] [(.long f0), (.long (own_max f1 f2))])) rfl (by rw [hml]; rfl) (argsL := [(.long (own_max f1 f2)), (.long f0)]) (rest := []) (lenOf pd_4 rfl) rfl (by show 2 * 0 + _ ≤ _; exact Nat.le_of_eq rfl) (hb hby at_375) (fun _ _ => ⟨rfl, e230, (by decide : 6 + 0 ≤ _), (by decide : 21 + 0 ≤ _)⟩)
    dsimp only [Pt.U, Pt.locs, Pt.cells, Pt.slots] at X232 l232 y232 z232 st232 hQ232
    replace X232 := own_cast X232 l232 y232 z232
    obtain ⟨hv232, N232q, e232⟩ := hQ232
    rw [hv232] at st232
    have N232 := Fr.app N230 N232q
    obtain ⟨cq233, kq233, q233a, q233b, q233c⟩ := isOf hZ e232 Eo220
    obtain ⟨_, _, ⟨T233, L233, k233, n233⟩, -, X233, ⟨Lc233, hQ233, l233, y233, z233⟩, st233⟩ := X232.virtualBack hx (y := (⟨"com/example/makespun/makespun/simulate/Timeline", "freeAt", "()D"⟩ : MethodName)) (z := (⟨"com/example/makespun/makespun/simulate/Timeline", "freeAt", "()D"⟩ : MethodName)) hown (mvT hZ (hw _ (List.mem_of_getElem? (i := 20) rfl))) (mvT hZ (hw _ (List.mem_of_getElem? (i := 21) rfl))) (notFace_of_selects (args := #[]) (mvT hZ (hw _ (List.mem_of_getElem? (i := 23) rfl)))) (mvT hZ (hw _ (List.mem_of_getElem? (i := 23) rfl))) (mvT hZ (hw _ (List.mem_of_getElem? (i := 22) rfl))) (by decide) (backOf (W := 0) (rmF31 l Z a0 hw [] b153 bt160 b52 kb160 k52 (2 : Int32) (0 : Int32) (0 : Int32) (FP.l2d f1) (FP.l2d f2) (FP.l2d f0) T220.heap n0 z226 Ft220 Fs220 Ff220 Vt220 f223) hZ (hw _ (List.mem_of_getElem? (i := 24) rfl)) (hw _ (List.mem_of_getElem? (i := 7) rfl)) (by decide) (by decide)) q233a q233c (g := (mkF m 382 #[.val (.int im), .val (.int ib), .val (.int i0), .val (.int i1), .val (.int i2), .val (.long ga), .second, .val (.int (3 : Int32)), .val (.int (1 : Int32)), .val (.int (0 : Int32)), .val (.ref b1), .val (.long (ib.toInt64)), .second, .val (.long f0), .second, .val (.long s1), .second, .val (.long f1), .second, .val (.long s2), .second, .val (.long f2), .second, .val (.ref b48), .val (.ref b52), .val (.ref b57), .val (.ref b153), .val (.long (own_max (own_max f1 f2) f0)), .second] [(.ref b153)])) rfl (by rw [hml]; rfl) (Steps.refl _) (argsL := []) (rest := []) (lenOf pd_2 rfl) rfl (by show 2 * 0 + _ ≤ _; exact Nat.le_of_eq rfl) (hb hby at_382) (fun _ _ => ⟨rfl, e232, (by decide : 6 + 0 ≤ _), (by decide : 21 + 0 ≤ _)⟩)
    dsimp only [Pt.U, Pt.locs, Pt.cells, Pt.slots] at X233 l233 y233 z233 st233 hQ233
    replace X233 := own_cast X233 l233 y233 z233
    obtain ⟨hv233, N233q, e233⟩ := hQ233
    rw [hv233] at st233
    have N233 := Fr.app N232 N233q
    obtain ⟨fs, hr, hrun, hended, hW, hsame⟩ := X233.leave (v := some (.int (1 : Int32))) (fun h => by rw [Bd.returns] at h; cases h)
    refine ⟨_, _, k203 _ ?_, hrun, hended, _, _, rfl, ?_, ⟨_, rfl⟩, hW, hsame.mono (by decide) (by decide)⟩
    · refine XS.iload X160.here hx rfl (hb hby at_274) rfl ?_
      refine XS.iconst X160.here hx rfl (hb hby at_276) ?_
      show Steps p.tables e below (T160.setTop (mkF m 277 #[.val (.int im), .val (.int ib), .val (.int i0), .val (.int i1), .val (.int i2), .val (.long ga), .second, .val (.int (3 : Int32)), .val (.int (1 : Int32)), .val (.int (0 : Int32)), .val (.ref b1), .val (.long (ib.toInt64)), .second, .val (.long f0), .second, .val (.long s1), .second, .val (.long f1), .second, .val (.long s2), .second, .val (.long f2), .second, .val (.ref b48), .val (.ref b52), .val (.ref b57), .val (.ref b153), .unset, .unset] [(.int (1 : Int32)), (.int (3 : Int32))])) _
      refine XS.icmpNo X160.here hx rfl (hb hby at_277) rfl (flt (by decide : ¬ ((3 : Int32) < (1 : Int32)))).1 ?_
      refine XS.aload X160.here hx rfl (hb hby at_280) rfl rfl ?_
      refine XS.iconst X160.here hx rfl (hb hby at_282) ?_
      refine XS.iconst X160.here hx rfl (hb hby at_283) ?_
      show Steps p.tables e below (T160.setTop (mkF m 284 #[.val (.int im), .val (.int ib), .val (.int i0), .val (.int i1), .val (.int i2), .val (.long ga), .second, .val (.int (3 : Int32)), .val (.int (1 : Int32)), .val (.int (0 : Int32)), .val (.ref b1), .val (.long (ib.toInt64)), .second, .val (.long f0), .second, .val (.long s1), .second, .val (.long f1), .second, .val (.long s2), .second, .val (.long f2), .second, .val (.ref b48), .val (.ref b52), .val (.ref b57), .val (.ref b153), .unset, .unset] [(.int (0 : Int32)), (.int (0 : Int32)), (.ref b153)])) _
      refine st204.trans ?_
      refine XS.iload X204.here hx rfl (hb hby at_287) rfl ?_
      refine XS.iconst X204.here hx rfl (hb hby at_289) ?_
      show Steps p.tables e below (T204.setTop (mkF m 290 #[.val (.int im), .val (.int ib), .val (.int i0), .val (.int i1), .val (.int i2), .val (.long ga), .second, .val (.int (3 : Int32)), .val (.int (1 : Int32)), .val (.int (0 : Int32)), .val (.ref b1), .val (.long (ib.toInt64)), .second, .val (.long f0), .second, .val (.long s1), .second, .val (.long f1), .second, .val (.long s2), .second, .val (.long f2), .second, .val (.ref b48), .val (.ref b52), .val (.ref b57), .val (.ref b153), .unset, .unset] [(.int (2 : Int32)), (.int (3 : Int32))])) _
      refine XS.icmpNo X204.here hx rfl (hb hby at_290) rfl (flt (by decide : ¬ ((3 : Int32) < (2 : Int32)))).1 ?_
      refine XS.aload X204.here hx rfl (hb hby at_293) rfl rfl ?_
      refine XS.iload X204.here hx rfl (hb hby at_295) rfl ?_
      show Steps p.tables e below (T204.setTop (mkF m 297 #[.val (.int im), .val (.int ib), .val (.int i0), .val (.int i1), .val (.int i2), .val (.long ga), .second, .val (.int (3 : Int32)), .val (.int (1 : Int32)), .val (.int (0 : Int32)), .val (.ref b1), .val (.long (ib.toInt64)), .second, .val (.long f0), .second, .val (.long s1), .second, .val (.long f1), .second, .val (.long s2), .second, .val (.long f2), .second, .val (.ref b48), .val (.ref b52), .val (.ref b57), .val (.ref b153), .unset, .unset] [(.int (1 : Int32)), (.ref b153)])) _
      refine XS.ifNo X204.here hx rfl (hb hby at_297) rfl ((if0 _ _).trans (feq (by decide : ¬ ((1 : Int32) = (0 : Int32)))).1) ?_
      refine XS.iconst X204.here hx rfl (hb hby at_300) ?_
      show Steps p.tables e below (T204.setTop (mkF m 301 #[.val (.int im), .val (.int ib), .val (.int i0), .val (.int i1), .val (.int i2), .val (.long ga), .second, .val (.int (3 : Int32)), .val (.int (1 : Int32)), .val (.int (0 : Int32)), .val (.ref b1), .val (.long (ib.toInt64)), .second, .val (.long f0), .second, .val (.long s1), .second, .val (.long f1), .second, .val (.long s2), .second, .val (.long f2), .second, .val (.ref b48), .val (.ref b52), .val (.ref b57), .val (.ref b153), .unset, .unset] [(.int (1 : Int32)), (.ref b153)])) _
      refine XS.goto X204.here hx rfl (pc0 := 301) (pc' := 305) rfl (hb hby at_301) (by decide) (by decide) ?_
      refine XS.iconst X204.here hx rfl (hb hby at_305) ?_
      refine st212.trans ?_
      refine XS.iload X212.here hx rfl (hb hby at_309) rfl ?_
      refine XS.iconst X212.here hx rfl (hb hby at_311) ?_
      show Steps p.tables e below (T212.setTop (mkF m 312 #[.val (.int im), .val (.int ib), .val (.int i0), .val (.int i1), .val (.int i2), .val (.long ga), .second, .val (.int (3 : Int32)), .val (.int (1 : Int32)), .val (.int (0 : Int32)), .val (.ref b1), .val (.long (ib.toInt64)), .second, .val (.long f0), .second, .val (.long s1), .second, .val (.long f1), .second, .val (.long s2), .second, .val (.long f2), .second, .val (.ref b48), .val (.ref b52), .val (.ref b57), .val (.ref b153), .unset, .unset] [(.int (3 : Int32)), (.int (3 : Int32))])) _
      refine XS.icmpNo X212.here hx rfl (hb hby at_312) rfl (teq (by decide : ((3 : Int32) = (3 : Int32)))).2 ?_
      refine XS.aload X212.here hx rfl (hb hby at_315) rfl rfl ?_
      show Steps p.tables e below (T212.setTop (mkF m 317 #[.val (.int im), .val (.int ib), .val (.int i0), .val (.int i1), .val (.int i2), .val (.long ga), .second, .val (.int (3 : Int32)), .val (.int (1 : Int32)), .val (.int (0 : Int32)), .val (.ref b1), .val (.long (ib.toInt64)), .second, .val (.long f0), .second, .val (.long s1), .second, .val (.long f1), .second, .val (.long s2), .second, .val (.long f2), .second, .val (.ref b48), .val (.ref b52), .val (.ref b57), .val (.ref b153), .unset, .unset] [(.ref b153)])) _
      refine XS.iload X212.here hx rfl (hb hby at_317) rfl ?_
      show Steps p.tables e below (T212.setTop (mkF m 319 #[.val (.int im), .val (.int ib), .val (.int i0), .val (.int i1), .val (.int i2), .val (.long ga), .second, .val (.int (3 : Int32)), .val (.int (1 : Int32)), .val (.int (0 : Int32)), .val (.ref b1), .val (.long (ib.toInt64)), .second, .val (.long f0), .second, .val (.long s1), .second, .val (.long f1), .second, .val (.long s2), .second, .val (.long f2), .second, .val (.ref b48), .val (.ref b52), .val (.ref b57), .val (.ref b153), .unset, .unset] [(.int (0 : Int32)), (.ref b153)])) _
      refine XS.ifYes X212.here hx rfl (pc0 := 319) (pc' := 326) rfl (hb hby at_319) rfl ((if0 _ _).trans (teq (by decide : ((0 : Int32) = (0 : Int32)))).1) (by decide) (by decide) ?_
      refine XS.iconst X212.here hx rfl (hb hby at_326) ?_
      refine XS.iconst X212.here hx rfl (hb hby at_327) ?_
      refine st220.trans ?_
      refine XS.lconst X220.here hx rfl (hb hby at_331) ?_
      refine XS.lstore X220.here hx rfl (hb hby at_332) rfl (l' := #[.val (.int im), .val (.int ib), .val (.int i0), .val (.int i1), .val (.int i2), .val (.long ga), .second, .val (.int (3 : Int32)), .val (.int (1 : Int32)), .val (.int (0 : Int32)), .val (.ref b1), .val (.long (ib.toInt64)), .second, .val (.long f0), .second, .val (.long s1), .second, .val (.long f1), .second, .val (.long s2), .second, .val (.long f2), .second, .val (.ref b48), .val (.ref b52), .val (.ref b57), .val (.ref b153), .val (.long (0 : Int64)), .second]) rfl ?_
      show Steps p.tables e below (T220.setTop (mkF m 334 #[.val (.int im), .val (.int ib), .val (.int i0), .val (.int i1), .val (.int i2), .val (.long ga), .second, .val (.int (3 : Int32)), .val (.int (1 : Int32)), .val (.int (0 : Int32)), .val (.ref b1), .val (.long (ib.toInt64)), .second, .val (.long f0), .second, .val (.long s1), .second, .val (.long f1), .second, .val (.long s2), .second, .val (.long f2), .second, .val (.ref b48), .val (.ref b52), .val (.ref b57), .val (.ref b153), .val (.long (0 : Int64)), .second] [])) _
      refine XS.iload X220.here hx rfl (hb hby at_334) rfl ?_
      refine XS.iconst X220.here hx rfl (hb hby at_336) ?_
      show Steps p.tables e below (T220.setTop (mkF m 337 #[.val (.int im), .val (.int ib), .val (.int i0), .val (.int i1), .val (.int i2), .val (.long ga), .second, .val (.int (3 : Int32)), .val (.int (1 : Int32)), .val (.int (0 : Int32)), .val (.ref b1), .val (.long (ib.toInt64)), .second, .val (.long f0), .second, .val (.long s1), .second, .val (.long f1), .second, .val (.long s2), .second, .val (.long f2), .second, .val (.ref b48), .val (.ref b52), .val (.ref b57), .val (.ref b153), .val (.long (0 : Int64)), .second] [(.int (1 : Int32)), (.int (3 : Int32))])) _
      refine XS.icmpNo X220.here hx rfl (hb hby at_337) rfl (flt (by decide : ¬ ((3 : Int32) < (1 : Int32)))).1 ?_
      refine XS.aload X220.here hx rfl (hb hby at_340) rfl rfl ?_
      refine XS.iconst X220.here hx rfl (hb hby at_342) ?_
      refine X220.laload hx (j := (0 : Int32)) (v := (.long f1)) (by exact Arq228.1) (State.isArrayOf_alike hZ.alike Arq228.2.1) Arq228.2.2 hiq228 haq228 (g := (mkF m 343 #[.val (.int im), .val (.int ib), .val (.int i0), .val (.int i1), .val (.int i2), .val (.long ga), .second, .val (.int (3 : Int32)), .val (.int (1 : Int32)), .val (.int (0 : Int32)), .val (.ref b1), .val (.long (ib.toInt64)), .second, .val (.long f0), .second, .val (.long s1), .second, .val (.long f1), .second, .val (.long s2), .second, .val (.long f2), .second, .val (.ref b48), .val (.ref b52), .val (.ref b57), .val (.ref b153), .val (.long (0 : Int64)), .second] [(.int (0 : Int32)), (.ref b57)])) rfl rfl (hb hby at_343) _ ?_
      refine XS.lstore X220.here hx rfl (hb hby at_344) rfl (l' := #[.val (.int im), .val (.int ib), .val (.int i0), .val (.int i1), .val (.int i2), .val (.long ga), .second, .val (.int (3 : Int32)), .val (.int (1 : Int32)), .val (.int (0 : Int32)), .val (.ref b1), .val (.long (ib.toInt64)), .second, .val (.long f0), .second, .val (.long s1), .second, .val (.long f1), .second, .val (.long s2), .second, .val (.long f2), .second, .val (.ref b48), .val (.ref b52), .val (.ref b57), .val (.ref b153), .val (.long f1), .second]) rfl ?_
      show Steps p.tables e below (T220.setTop (mkF m 346 #[.val (.int im), .val (.int ib), .val (.int i0), .val (.int i1), .val (.int i2), .val (.long ga), .second, .val (.int (3 : Int32)), .val (.int (1 : Int32)), .val (.int (0 : Int32)), .val (.ref b1), .val (.long (ib.toInt64)), .second, .val (.long f0), .second, .val (.long s1), .second, .val (.long f1), .second, .val (.long s2), .second, .val (.long f2), .second, .val (.ref b48), .val (.ref b52), .val (.ref b57), .val (.ref b153), .val (.long f1), .second] [])) _
      refine XS.iload X220.here hx rfl (hb hby at_346) rfl ?_
      refine XS.iconst X220.here hx rfl (hb hby at_348) ?_
      show Steps p.tables e below (T220.setTop (mkF m 349 #[.val (.int im), .val (.int ib), .val (.int i0), .val (.int i1), .val (.int i2), .val (.long ga), .second, .val (.int (3 : Int32)), .val (.int (1 : Int32)), .val (.int (0 : Int32)), .val (.ref b1), .val (.long (ib.toInt64)), .second, .val (.long f0), .second, .val (.long s1), .second, .val (.long f1), .second, .val (.long s2), .second, .val (.long f2), .second, .val (.ref b48), .val (.ref b52), .val (.ref b57), .val (.ref b153), .val (.long f1), .second] [(.int (2 : Int32)), (.int (3 : Int32))])) _
      refine XS.icmpNo X220.here hx rfl (hb hby at_349) rfl (flt (by decide : ¬ ((3 : Int32) < (2 : Int32)))).1 ?_
      refine XS.lload X220.here hx rfl (hb hby at_352) rfl ?_
      refine XS.aload X220.here hx rfl (hb hby at_354) rfl rfl ?_
      refine XS.iconst X220.here hx rfl (hb hby at_356) ?_
      refine X220.laload hx (j := (1 : Int32)) (v := (.long f2)) (by exact Arq229.1) (State.isArrayOf_alike hZ.alike Arq229.2.1) Arq229.2.2 hiq229 haq229 (g := (mkF m 357 #[.val (.int im), .val (.int ib), .val (.int i0), .val (.int i1), .val (.int i2), .val (.long ga), .second, .val (.int (3 : Int32)), .val (.int (1 : Int32)), .val (.int (0 : Int32)), .val (.ref b1), .val (.long (ib.toInt64)), .second, .val (.long f0), .second, .val (.long s1), .second, .val (.long f1), .second, .val (.long s2), .second, .val (.long f2), .second, .val (.ref b48), .val (.ref b52), .val (.ref b57), .val (.ref b153), .val (.long f1), .second] [(.int (1 : Int32)), (.ref b57), (.long f1)])) rfl rfl (hb hby at_357) _ ?_
      show Steps p.tables e below (T220.setTop (mkF m 358 #[.val (.int im), .val (.int ib), .val (.int i0), .val (.int i1), .val (.int i2), .val (.long ga), .second, .val (.int (3 : Int32)), .val (.int (1 : Int32)), .val (.int (0 : Int32)), .val (.ref b1), .val (.long (ib.toInt64)), .second, .val (.long f0), .second, .val (.long s1), .second, .val (.long f1), .second, .val (.long s2), .second, .val (.long f2), .second, .val (.ref b48), .val (.ref b52), .val (.ref b57), .val (.ref b153), .val (.long f1), .second] [(.long f2), (.long f1)])) _
      refine st230 _ ?_
      refine XS.lstore X230.here hx rfl (hb hby at_361) rfl (l' := #[.val (.int im), .val (.int ib), .val (.int i0), .val (.int i1), .val (.int i2), .val (.long ga), .second, .val (.int (3 : Int32)), .val (.int (1 : Int32)), .val (.int (0 : Int32)), .val (.ref b1), .val (.long (ib.toInt64)), .second, .val (.long f0), .second, .val (.long s1), .second, .val (.long f1), .second, .val (.long s2), .second, .val (.long f2), .second, .val (.ref b48), .val (.ref b52), .val (.ref b57), .val (.ref b153), .val (.long (own_max f1 f2)), .second]) rfl ?_
      refine XS.iload X230.here hx rfl (hb hby at_363) rfl ?_
      refine XS.iconst X230.here hx rfl (hb hby at_365) ?_
      show Steps p.tables e below (T230.setTop (mkF m 366 #[.val (.int im), .val (.int ib), .val (.int i0), .val (.int i1), .val (.int i2), .val (.long ga), .second, .val (.int (3 : Int32)), .val (.int (1 : Int32)), .val (.int (0 : Int32)), .val (.ref b1), .val (.long (ib.toInt64)), .second, .val (.long f0), .second, .val (.long s1), .second, .val (.long f1), .second, .val (.long s2), .second, .val (.long f2), .second, .val (.ref b48), .val (.ref b52), .val (.ref b57), .val (.ref b153), .val (.long (own_max f1 f2)), .second] [(.int (3 : Int32)), (.int (3 : Int32))])) _
      refine XS.icmpNo X230.here hx rfl (hb hby at_366) rfl (teq (by decide : ((3 : Int32) = (3 : Int32)))).2 ?_
      refine XS.lload X230.here hx rfl (hb hby at_369) rfl ?_
      refine XS.aload X230.here hx rfl (hb hby at_371) rfl rfl ?_
      show Steps p.tables e below (T230.setTop (mkF m 373 #[.val (.int im), .val (.int ib), .val (.int i0), .val (.int i1), .val (.int i2), .val (.long ga), .second, .val (.int (3 : Int32)), .val (.int (1 : Int32)), .val (.int (0 : Int32)), .val (.ref b1), .val (.long (ib.toInt64)), .second, .val (.long f0), .second, .val (.long s1), .second, .val (.long f1), .second, .val (.long s2), .second, .val (.long f2), .second, .val (.ref b48), .val (.ref b52), .val (.ref b57), .val (.ref b153), .val (.long (own_max f1 f2)), .second] [(.ref b57), (.long (own_max f1 f2))])) _
      refine XS.iconst X230.here hx rfl (hb hby at_373) ?_
      refine X230.laload hx (j := (2 : Int32)) (v := (.long f0)) (by rw [e230]; exact Arq231.1) (State.isArrayOf_alike hZ.alike Arq231.2.1) Arq231.2.2 hiq231 haq231 (g := (mkF m 374 #[.val (.int im), .val (.int ib), .val (.int i0), .val (.int i1), .val (.int i2), .val (.long ga), .second, .val (.int (3 : Int32)), .val (.int (1 : Int32)), .val (.int (0 : Int32)), .val (.ref b1), .val (.long (ib.toInt64)), .second, .val (.long f0), .second, .val (.long s1), .second, .val (.long f1), .second, .val (.long s2), .second, .val (.long f2), .second, .val (.ref b48), .val (.ref b52), .val (.ref b57), .val (.ref b153), .val (.long (own_max f1 f2)), .second] [(.int (2 : Int32)), (.ref b57), (.long (own_max f1 f2))])) rfl rfl (hb hby at_374) _ ?_
      refine st232 _ ?_
      refine XS.lstore X232.here hx rfl (hb hby at_378) rfl (l' := #[.val (.int im), .val (.int ib), .val (.int i0), .val (.int i1), .val (.int i2), .val (.long ga), .second, .val (.int (3 : Int32)), .val (.int (1 : Int32)), .val (.int (0 : Int32)), .val (.ref b1), .val (.long (ib.toInt64)), .second, .val (.long f0), .second, .val (.long s1), .second, .val (.long f1), .second, .val (.long s2), .second, .val (.long f2), .second, .val (.ref b48), .val (.ref b52), .val (.ref b57), .val (.ref b153), .val (.long (own_max (own_max f1 f2) f0)), .second]) rfl ?_
      refine XS.aload X232.here hx rfl (hb hby at_380) rfl rfl ?_
      refine st233.trans ?_
      show Steps p.tables e below (T233.setTop (mkF m 385 #[.val (.int im), .val (.int ib), .val (.int i0), .val (.int i1), .val (.int i2), .val (.long ga), .second, .val (.int (3 : Int32)), .val (.int (1 : Int32)), .val (.int (0 : Int32)), .val (.ref b1), .val (.long (ib.toInt64)), .second, .val (.long f0), .second, .val (.long s1), .second, .val (.long f1), .second, .val (.long s2), .second, .val (.long f2), .second, .val (.ref b48), .val (.ref b52), .val (.ref b57), .val (.ref b153), .val (.long (own_max (own_max f1 f2) f0)), .second] [(.double (FP.l2d f2))])) _
      refine XS.lload X233.here hx rfl (hb hby at_385) rfl ?_
      show Steps p.tables e below (T233.setTop (mkF m 387 #[.val (.int im), .val (.int ib), .val (.int i0), .val (.int i1), .val (.int i2), .val (.long ga), .second, .val (.int (3 : Int32)), .val (.int (1 : Int32)), .val (.int (0 : Int32)), .val (.ref b1), .val (.long (ib.toInt64)), .second, .val (.long f0), .second, .val (.long s1), .second, .val (.long f1), .second, .val (.long s2), .second, .val (.long f2), .second, .val (.ref b48), .val (.ref b52), .val (.ref b57), .val (.ref b153), .val (.long (own_max (own_max f1 f2) f0)), .second] [(.long (own_max (own_max f1 f2) f0)), (.double (FP.l2d f2))])) _
      refine XS.l2dS X233.here hx rfl (hb hby at_387) rfl rfl ?_
      show Steps p.tables e below (T233.setTop (mkF m 388 #[.val (.int im), .val (.int ib), .val (.int i0), .val (.int i1), .val (.int i2), .val (.long ga), .second, .val (.int (3 : Int32)), .val (.int (1 : Int32)), .val (.int (0 : Int32)), .val (.ref b1), .val (.long (ib.toInt64)), .second, .val (.long f0), .second, .val (.long s1), .second, .val (.long f1), .second, .val (.long s2), .second, .val (.long f2), .second, .val (.ref b48), .val (.ref b52), .val (.ref b57), .val (.ref b153), .val (.long (own_max (own_max f1 f2) f0)), .second] [(.double (FP.l2d (own_max (own_max f1 f2) f0))), (.double (FP.l2d f2))])) _
      refine XS.dcmpS X233.here hx rfl (hb hby at_388) rfl (v := (0 : Int32)) (own_cmp (show f2 = (own_max (own_max f1 f2) f0) from ((congrArg (fun z => own_max z f0) ((congrArg (fun z => own_max z f2) rfl).trans (own_max_r ho.2.1))).trans (own_max_l ho.2.2)).symm)) ?_
      show Steps p.tables e below (T233.setTop (mkF m 389 #[.val (.int im), .val (.int ib), .val (.int i0), .val (.int i1), .val (.int i2), .val (.long ga), .second, .val (.int (3 : Int32)), .val (.int (1 : Int32)), .val (.int (0 : Int32)), .val (.ref b1), .val (.long (ib.toInt64)), .second, .val (.long f0), .second, .val (.long s1), .second, .val (.long f1), .second, .val (.long s2), .second, .val (.long f2), .second, .val (.ref b48), .val (.ref b52), .val (.ref b57), .val (.ref b153), .val (.long (own_max (own_max f1 f2) f0)), .second] [(.int (0 : Int32))])) _
      refine XS.ifNo X233.here hx rfl (hb hby at_389) rfl ((if0 _ _).trans (teq (by decide : ((0 : Int32) = (0 : Int32)))).2) ?_
      refine XS.iconst X233.here hx rfl (hb hby at_392) ?_
      refine XS.goto X233.here hx rfl (pc0 := 393) (pc' := 397) rfl (hb hby at_393) (by decide) (by decide) ?_
      show Steps p.tables e below (T233.setTop (mkF m 397 #[.val (.int im), .val (.int ib), .val (.int i0), .val (.int i1), .val (.int i2), .val (.long ga), .second, .val (.int (3 : Int32)), .val (.int (1 : Int32)), .val (.int (0 : Int32)), .val (.ref b1), .val (.long (ib.toInt64)), .second, .val (.long f0), .second, .val (.long s1), .second, .val (.long f1), .second, .val (.long s2), .second, .val (.long f2), .second, .val (.ref b48), .val (.ref b52), .val (.ref b57), .val (.ref b153), .val (.long (own_max (own_max f1 f2) f0)), .second] [(.int (1 : Int32))])) _
      exact retN X233 hx (t := .boolean) Bd.returns (by simp) (hb hby at_397) hr
    · show own_Q0 Z im ib i0 i1 i2 ga h0 n0 _ T233.heap _
      rw [e233]
      exact ⟨rfl, N233⟩
set_option maxRecDepth 65536 in
set_option maxHeartbeats 40000000 in
theorem rm0_01 (l : Launch) (Z : State) (a0 : Array Value) (hw : ∀ d ∈ tables_1, d.before a0 Z = true) (ws : List Jvm.Cond) (im ib i0 i1 i2 : Int32) (ga : Int64) (h0 : Heap) (n0 : Nat) (Z0 : n0 ≤ h0.size) (he1 : (im &&& (4 : Int32)) = (0 : Int32)) (he2 : ¬ (im &&& (8 : Int32)) = (0 : Int32)) :
    MetFree l x (head1 (Jvm.Cond.code x code maxLocals ret :: ws) room_1) (fun a U => a = #[(.int im), (.int ib), (.int i0), (.int i1), (.int i2), (.long ga)] ∧ Z.Warmed39 U.vm ∧ U.heap = h0) (fun _ _ _ _ _ => True) (fun _ U o U' => ∃ v L, o = .returned v ∧ own_Q0 Z im ib i0 i1 i2 ga h0 n0 v U'.heap L ∧ FrameEnd U o U' L room_1.cells room_1.slots) := by
  refine MetFree.of_bodySF (plainFor_of_name pn_0) hisR ?_
  intro p e s m args below meth c s₁ Bd hml0 hP hK
  obtain ⟨rfl, hZ, hh⟩ := hP
  have hx := Bd.exec
  have hby := Bd.bytes
  have hml : c.maxLocals = 29 := hml0
  have hown : s.vm.findClass "com/example/makespun/makespun/simulate/TimelineFreeAtPinLaw" = some m.cls := findClass_of_methodNamed Bd.named
  have hnm := (name_of_methodNamed Bd.named Bd.method).1
  have X0 : Stand p l e room_1 s m #[(.int im), (.int ib), (.int i0), (.int i1), (.int i2), (.long ga)] below meth c s₁ [] 0 0 := Stand.of_body Bd
  have e0 : s₁.heap = h0 := by rw [← hh, Bd.state]; rfl
  have N0 := Fr.nil n0
  have pre0 : ∀ tq, Steps p.tables e below (s₁.setTop (mkF m 0 #[.val (.int im), .val (.int ib), .val (.int i0), .val (.int i1), .val (.int i2), .val (.long ga), .second, .unset, .unset, .unset, .unset, .unset, .unset, .unset, .unset, .unset, .unset, .unset, .unset, .unset, .unset, .unset, .unset, .unset, .unset, .unset, .unset, .unset, .unset] [])) tq → Steps p.tables e below (s₁.setTop (entryFrame m #[(.int im), (.int ib), (.int i0), (.int i1), (.int i2), (.long ga)] maxLocals)) tq := fun tq k => castTop (ef_0 m im ib i0 i1 i2 ga) k
  obtain ⟨T1, h1, k1, X1, e1, E1, A1, st1⟩ := newP X0 hx hZ (hw _ (List.mem_of_getElem? (i := 0) rfl)) e0 (g := (mkF m 33 #[.val (.int im), .val (.int ib), .val (.int i0), .val (.int i1), .val (.int i2), .val (.long ga), .second, .val (.int (im &&& (3 : Int32))), .val (.int (0 : Int32)), .val (.int (1 : Int32)), .unset, .unset, .unset, .unset, .unset, .unset, .unset, .unset, .unset, .unset, .unset, .unset, .unset, .unset, .unset, .unset, .unset, .unset, .unset] [(.int (3 : Int32))])) rfl (hb hby at_33) rfl (by decide) (cap := 3) (by decide) (by decide) (by decide) (by decide)
  obtain ⟨b1, g1⟩ : ∃ z, z = h0.size := ⟨_, rfl⟩
  rw [← g1] at A1 st1
  have g_b1 : n0 ≤ b1 := Nat.le_trans Z0 (Nat.le_of_eq g1.symm)
  have sz_b1 : h0.size ≤ b1 := Nat.le_trans (Keep.refl h0 []).1 (Nat.le_of_eq g1.symm)
  have z2 := Nat.le_trans Z0 E1.1
  have kp3 := (Keep.refl h0 []).ext E1
  have V_b1 : Arv Z h1 b1 k1 .int (3 : Int32) [(.int (0 : Int32)), (.int (0 : Int32)), (.int (0 : Int32))] (.int (0 : Int32)) := (Arv.new A1 (by decide)).pad (pad_rep [] (.int (0 : Int32)) 3)
  obtain ⟨clq4, Arq4, cq4, Sq4, nq4, Hq4, Gq4⟩ := id V_b1
  have hiq4 : ¬ ((0 : Int32) < 0 ∨ clq4.slots.size ≤ ((0 : Int32)).toNatClampNeg) := inb_of Sq4 ⟨by decide, by decide⟩
  obtain ⟨T5, h5, X5, e5, W5, st5⟩ := stI X1 hx hZ e1 Arq4 (j := (0 : Int32)) hiq4 (g := (mkF m 59 #[.val (.int im), .val (.int ib), .val (.int i0), .val (.int i1), .val (.int i2), .val (.long ga), .second, .val (.int (im &&& (3 : Int32))), .val (.int (0 : Int32)), .val (.int (1 : Int32)), .val (.ref b1), .unset, .unset, .unset, .unset, .unset, .unset, .unset, .unset, .unset, .unset, .unset, .unset, .unset, .unset, .unset, .unset, .unset, .unset] [(.int (1 : Int32)), (.int (0 : Int32)), (.ref b1)])) rfl rfl (hb hby at_59)
  have v6 : Arv Z h5 b1 k1 .int (3 : Int32) [(.int (1 : Int32)), (.int (0 : Int32)), (.int (0 : Int32))] (.int (0 : Int32)) := Arv.set Arq4 cq4 Sq4 nq4 Hq4 Gq4 rfl W5 0 rfl (Nat.le_of_ble_eq_true rfl)
  have kp7 := kp3.wr W5 (Or.inr sz_b1)
  have z8 := Nat.le_trans z2 (Keep.of_wr W5).1
  have N9 := Fr.snoc X5 N0 g_b1
  obtain ⟨clq10, Arq10, cq10, Sq10, nq10, Hq10, Gq10⟩ := id v6
  have hiq10 : ¬ ((1 : Int32) < 0 ∨ clq10.slots.size ≤ ((1 : Int32)).toNatClampNeg) := inb_of Sq10 ⟨by decide, by decide⟩
  obtain ⟨T11, h11, X11, e11, W11, st11⟩ := stI X5 hx hZ e5 Arq10 (j := (1 : Int32)) hiq10 (g := (mkF m 64 #[.val (.int im), .val (.int ib), .val (.int i0), .val (.int i1), .val (.int i2), .val (.long ga), .second, .val (.int (im &&& (3 : Int32))), .val (.int (0 : Int32)), .val (.int (1 : Int32)), .val (.ref b1), .unset, .unset, .unset, .unset, .unset, .unset, .unset, .unset, .unset, .unset, .unset, .unset, .unset, .unset, .unset, .unset, .unset, .unset] [(.int (0 : Int32)), (.int (1 : Int32)), (.ref b1)])) rfl rfl (hb hby at_64)
  have v12 : Arv Z h11 b1 k1 .int (3 : Int32) [(.int (1 : Int32)), (.int (0 : Int32)), (.int (0 : Int32))] (.int (0 : Int32)) := Arv.set Arq10 cq10 Sq10 nq10 Hq10 Gq10 rfl W11 1 rfl (Nat.le_of_ble_eq_true rfl)
  have kp13 := kp7.wr W11 (Or.inr sz_b1)
  have z14 := Nat.le_trans z8 (Keep.of_wr W11).1
  have N15 := Fr.snoc X11 N9 g_b1
  obtain ⟨clq16, Arq16, cq16, Sq16, nq16, Hq16, Gq16⟩ := id v12
  have hiq16 : ¬ ((2 : Int32) < 0 ∨ clq16.slots.size ≤ ((2 : Int32)).toNatClampNeg) := inb_of Sq16 ⟨by decide, by decide⟩
  obtain ⟨T17, h17, X17, e17, W17, st17⟩ := stI X11 hx hZ e11 Arq16 (j := (2 : Int32)) hiq16 (g := (mkF m 74 #[.val (.int im), .val (.int ib), .val (.int i0), .val (.int i1), .val (.int i2), .val (.long ga), .second, .val (.int (im &&& (3 : Int32))), .val (.int (0 : Int32)), .val (.int (1 : Int32)), .val (.ref b1), .unset, .unset, .unset, .unset, .unset, .unset, .unset, .unset, .unset, .unset, .unset, .unset, .unset, .unset, .unset, .unset, .unset, .unset] [(.int (2 : Int32)), (.int (2 : Int32)), (.ref b1)])) rfl rfl (hb hby at_74)
  have v18 : Arv Z h17 b1 k1 .int (3 : Int32) [(.int (1 : Int32)), (.int (0 : Int32)), (.int (2 : Int32))] (.int (0 : Int32)) := Arv.set Arq16 cq16 Sq16 nq16 Hq16 Gq16 rfl W17 2 rfl (Nat.le_of_ble_eq_true rfl)
  have kp19 := kp13.wr W17 (Or.inr sz_b1)
  have z20 := Nat.le_trans z14 (Keep.of_wr W17).1
  have N21 := Fr.snoc X17 N15 g_b1
  have k22 : ∀ tq, Steps p.tables e below (T17.setTop (mkF m 103 #[.val (.int im), .val (.int ib), .val (.int i0), .val (.int i1), .val (.int i2), .val (.long ga), .second, .val (.int (im &&& (3 : Int32))), .val (.int (0 : Int32)), .val (.int (1 : Int32)), .val (.ref b1), .val (.long (ib.toInt64)), .second, .unset, .unset, .unset, .unset, .unset, .unset, .unset, .unset, .unset, .unset, .unset, .unset, .unset, .unset, .unset, .unset] [])) tq → Steps p.tables e below (s₁.setTop (entryFrame m #[(.int im), (.int ib), (.int i0), (.int i1), (.int i2), (.long ga)] maxLocals)) tq := by
    intro tq kt
    refine pre0 tq ?_
    refine XS.iloadN X0.here hx rfl (hb hby at_0) rfl ?_
    refine XS.iconst X0.here hx rfl (hb hby at_1) ?_
    refine XS.iand X0.here hx rfl (hb hby at_2) rfl ?_
    refine XS.istore X0.here hx rfl (hb hby at_3) rfl (l' := #[.val (.int im), .val (.int ib), .val (.int i0), .val (.int i1), .val (.int i2), .val (.long ga), .second, .val (.int (im &&& (3 : Int32))), .unset, .unset, .unset, .unset, .unset, .unset, .unset, .unset, .unset, .unset, .unset, .unset, .unset, .unset, .unset, .unset, .unset, .unset, .unset, .unset, .unset]) rfl ?_
    refine XS.iloadN X0.here hx rfl (hb hby at_5) rfl ?_
    show Steps p.tables e below (s₁.setTop (mkF m 6 #[.val (.int im), .val (.int ib), .val (.int i0), .val (.int i1), .val (.int i2), .val (.long ga), .second, .val (.int (im &&& (3 : Int32))), .unset, .unset, .unset, .unset, .unset, .unset, .unset, .unset, .unset, .unset, .unset, .unset, .unset, .unset, .unset, .unset, .unset, .unset, .unset, .unset, .unset] [(.int im)])) _
    refine XS.iconst X0.here hx rfl (hb hby at_6) ?_
    refine XS.iand X0.here hx rfl (hb hby at_7) rfl ?_
    show Steps p.tables e below (s₁.setTop (mkF m 8 #[.val (.int im), .val (.int ib), .val (.int i0), .val (.int i1), .val (.int i2), .val (.long ga), .second, .val (.int (im &&& (3 : Int32))), .unset, .unset, .unset, .unset, .unset, .unset, .unset, .unset, .unset, .unset, .unset, .unset, .unset, .unset, .unset, .unset, .unset, .unset, .unset, .unset, .unset] [(.int (im &&& (4 : Int32)))])) _
    refine XS.ifYes X0.here hx rfl (pc0 := 8) (pc' := 15) rfl (hb hby at_8) rfl ((if0 _ _).trans (teq he1).1) (by decide) (by decide) ?_
    refine XS.iconst X0.here hx rfl (hb hby at_15) ?_
    refine XS.istore X0.here hx rfl (hb hby at_16) rfl (l' := #[.val (.int im), .val (.int ib), .val (.int i0), .val (.int i1), .val (.int i2), .val (.long ga), .second, .val (.int (im &&& (3 : Int32))), .val (.int (0 : Int32)), .unset, .unset, .unset, .unset, .unset, .unset, .unset, .unset, .unset, .unset, .unset, .unset, .unset, .unset, .unset, .unset, .unset, .unset, .unset, .unset]) rfl ?_
    refine XS.iloadN X0.here hx rfl (hb hby at_18) rfl ?_
    refine XS.bipush X0.here hx rfl (hb hby at_19) ?_
    show Steps p.tables e below (s₁.setTop (mkF m 21 #[.val (.int im), .val (.int ib), .val (.int i0), .val (.int i1), .val (.int i2), .val (.long ga), .second, .val (.int (im &&& (3 : Int32))), .val (.int (0 : Int32)), .unset, .unset, .unset, .unset, .unset, .unset, .unset, .unset, .unset, .unset, .unset, .unset, .unset, .unset, .unset, .unset, .unset, .unset, .unset, .unset] [(.int (8 : Int32)), (.int im)])) _
    refine XS.iand X0.here hx rfl (hb hby at_21) rfl ?_
    show Steps p.tables e below (s₁.setTop (mkF m 22 #[.val (.int im), .val (.int ib), .val (.int i0), .val (.int i1), .val (.int i2), .val (.long ga), .second, .val (.int (im &&& (3 : Int32))), .val (.int (0 : Int32)), .unset, .unset, .unset, .unset, .unset, .unset, .unset, .unset, .unset, .unset, .unset, .unset, .unset, .unset, .unset, .unset, .unset, .unset, .unset, .unset] [(.int (im &&& (8 : Int32)))])) _
    refine XS.ifNo X0.here hx rfl (hb hby at_22) rfl ((if0 _ _).trans (feq he2).1) ?_
    refine XS.iconst X0.here hx rfl (hb hby at_25) ?_
    refine XS.goto X0.here hx rfl (pc0 := 26) (pc' := 30) rfl (hb hby at_26) (by decide) (by decide) ?_
    refine XS.istore X0.here hx rfl (hb hby at_30) rfl (l' := #[.val (.int im), .val (.int ib), .val (.int i0), .val (.int i1), .val (.int i2), .val (.long ga), .second, .val (.int (im &&& (3 : Int32))), .val (.int (0 : Int32)), .val (.int (1 : Int32)), .unset, .unset, .unset, .unset, .unset, .unset, .unset, .unset, .unset, .unset, .unset, .unset, .unset, .unset, .unset, .unset, .unset, .unset, .unset]) rfl ?_
    refine XS.iconst X0.here hx rfl (hb hby at_32) ?_
    refine st1 _ ?_
    show Steps p.tables e below (T1.setTop (mkF m 35 #[.val (.int im), .val (.int ib), .val (.int i0), .val (.int i1), .val (.int i2), .val (.long ga), .second, .val (.int (im &&& (3 : Int32))), .val (.int (0 : Int32)), .val (.int (1 : Int32)), .unset, .unset, .unset, .unset, .unset, .unset, .unset, .unset, .unset, .unset, .unset, .unset, .unset, .unset, .unset, .unset, .unset, .unset, .unset] [(.ref b1)])) _
    refine XS.astore X1.here hx rfl (hb hby at_35) rfl rfl (l' := #[.val (.int im), .val (.int ib), .val (.int i0), .val (.int i1), .val (.int i2), .val (.long ga), .second, .val (.int (im &&& (3 : Int32))), .val (.int (0 : Int32)), .val (.int (1 : Int32)), .val (.ref b1), .unset, .unset, .unset, .unset, .unset, .unset, .unset, .unset, .unset, .unset, .unset, .unset, .unset, .unset, .unset, .unset, .unset, .unset]) rfl ?_
    refine XS.iload X1.here hx rfl (hb hby at_37) rfl ?_
    show Steps p.tables e below (T1.setTop (mkF m 39 #[.val (.int im), .val (.int ib), .val (.int i0), .val (.int i1), .val (.int i2), .val (.long ga), .second, .val (.int (im &&& (3 : Int32))), .val (.int (0 : Int32)), .val (.int (1 : Int32)), .val (.ref b1), .unset, .unset, .unset, .unset, .unset, .unset, .unset, .unset, .unset, .unset, .unset, .unset, .unset, .unset, .unset, .unset, .unset, .unset] [(.int (0 : Int32))])) _
    refine XS.ifYes X1.here hx rfl (pc0 := 39) (pc' := 55) rfl (hb hby at_39) rfl ((if0 _ _).trans (teq (by decide : ((0 : Int32) = (0 : Int32)))).1) (by decide) (by decide) ?_
    refine XS.aload X1.here hx rfl (hb hby at_55) rfl rfl ?_
    refine XS.iconst X1.here hx rfl (hb hby at_57) ?_
    refine XS.iconst X1.here hx rfl (hb hby at_58) ?_
    refine st5 _ ?_
    show Steps p.tables e below (T5.setTop (mkF m 60 #[.val (.int im), .val (.int ib), .val (.int i0), .val (.int i1), .val (.int i2), .val (.long ga), .second, .val (.int (im &&& (3 : Int32))), .val (.int (0 : Int32)), .val (.int (1 : Int32)), .val (.ref b1), .unset, .unset, .unset, .unset, .unset, .unset, .unset, .unset, .unset, .unset, .unset, .unset, .unset, .unset, .unset, .unset, .unset, .unset] [])) _
    refine XS.aload X5.here hx rfl (hb hby at_60) rfl rfl ?_
    refine XS.iconst X5.here hx rfl (hb hby at_62) ?_
    refine XS.iconst X5.here hx rfl (hb hby at_63) ?_
    refine st11 _ ?_
    refine XS.iload X11.here hx rfl (hb hby at_65) rfl ?_
    show Steps p.tables e below (T11.setTop (mkF m 67 #[.val (.int im), .val (.int ib), .val (.int i0), .val (.int i1), .val (.int i2), .val (.long ga), .second, .val (.int (im &&& (3 : Int32))), .val (.int (0 : Int32)), .val (.int (1 : Int32)), .val (.ref b1), .unset, .unset, .unset, .unset, .unset, .unset, .unset, .unset, .unset, .unset, .unset, .unset, .unset, .unset, .unset, .unset, .unset, .unset] [(.int (1 : Int32))])) _
    refine XS.ifNo X11.here hx rfl (hb hby at_67) rfl ((if0 _ _).trans (feq (by decide : ¬ ((1 : Int32) = (0 : Int32)))).1) ?_
    refine XS.aload X11.here hx rfl (hb hby at_70) rfl rfl ?_
    show Steps p.tables e below (T11.setTop (mkF m 72 #[.val (.int im), .val (.int ib), .val (.int i0), .val (.int i1), .val (.int i2), .val (.long ga), .second, .val (.int (im &&& (3 : Int32))), .val (.int (0 : Int32)), .val (.int (1 : Int32)), .val (.ref b1), .unset, .unset, .unset, .unset, .unset, .unset, .unset, .unset, .unset, .unset, .unset, .unset, .unset, .unset, .unset, .unset, .unset, .unset] [(.ref b1)])) _
    refine XS.iconst X11.here hx rfl (hb hby at_72) ?_
    refine XS.iconst X11.here hx rfl (hb hby at_73) ?_
    refine st17 _ ?_
    refine XS.goto X17.here hx rfl (pc0 := 75) (pc' := 99) rfl (hb hby at_75) (by decide) (by decide) ?_
    refine XS.iloadN X17.here hx rfl (hb hby at_99) rfl ?_
    refine XS.i2l X17.here hx rfl (hb hby at_100) rfl ?_
    show Steps p.tables e below (T17.setTop (mkF m 101 #[.val (.int im), .val (.int ib), .val (.int i0), .val (.int i1), .val (.int i2), .val (.long ga), .second, .val (.int (im &&& (3 : Int32))), .val (.int (0 : Int32)), .val (.int (1 : Int32)), .val (.ref b1), .unset, .unset, .unset, .unset, .unset, .unset, .unset, .unset, .unset, .unset, .unset, .unset, .unset, .unset, .unset, .unset, .unset, .unset] [(.long (ib.toInt64))])) _
    refine XS.lstore X17.here hx rfl (hb hby at_101) rfl (l' := #[.val (.int im), .val (.int ib), .val (.int i0), .val (.int i1), .val (.int i2), .val (.long ga), .second, .val (.int (im &&& (3 : Int32))), .val (.int (0 : Int32)), .val (.int (1 : Int32)), .val (.ref b1), .val (.long (ib.toInt64)), .second, .unset, .unset, .unset, .unset, .unset, .unset, .unset, .unset, .unset, .unset, .unset, .unset, .unset, .unset, .unset, .unset]) rfl ?_
    exact kt
  obtain ⟨s0, hs0⟩ : ∃ z : Int64, z = (ib.toInt64) := ⟨_, rfl⟩
  have k23 : ∀ tq, Steps p.tables e below (T17.setTop (mkF m 103 #[.val (.int im), .val (.int ib), .val (.int i0), .val (.int i1), .val (.int i2), .val (.long ga), .second, .val (.int (im &&& (3 : Int32))), .val (.int (0 : Int32)), .val (.int (1 : Int32)), .val (.ref b1), .val (.long s0), .second, .unset, .unset, .unset, .unset, .unset, .unset, .unset, .unset, .unset, .unset, .unset, .unset, .unset, .unset, .unset, .unset] [])) tq → Steps p.tables e below (s₁.setTop (entryFrame m #[(.int im), (.int ib), (.int i0), (.int i1), (.int i2), (.long ga)] maxLocals)) tq := by
    intro tq kt
    subst hs0
    exact k22 tq kt
  have k24 : ∀ tq, Steps p.tables e below (T17.setTop (mkF m 113 #[.val (.int im), .val (.int ib), .val (.int i0), .val (.int i1), .val (.int i2), .val (.long ga), .second, .val (.int (im &&& (3 : Int32))), .val (.int (0 : Int32)), .val (.int (1 : Int32)), .val (.ref b1), .val (.long s0), .second, .val (.long (s0 + ((i0 &&& (2147483647 : Int32)).toInt64))), .second, .unset, .unset, .unset, .unset, .unset, .unset, .unset, .unset, .unset, .unset, .unset, .unset, .unset, .unset] [])) tq → Steps p.tables e below (s₁.setTop (entryFrame m #[(.int im), (.int ib), (.int i0), (.int i1), (.int i2), (.long ga)] maxLocals)) tq := by
    intro tq kt
    refine k23 tq ?_
    refine XS.lload X17.here hx rfl (hb hby at_103) rfl ?_
    refine XS.iloadN X17.here hx rfl (hb hby at_105) rfl ?_
    show Steps p.tables e below (T17.setTop (mkF m 106 #[.val (.int im), .val (.int ib), .val (.int i0), .val (.int i1), .val (.int i2), .val (.long ga), .second, .val (.int (im &&& (3 : Int32))), .val (.int (0 : Int32)), .val (.int (1 : Int32)), .val (.ref b1), .val (.long s0), .second, .unset, .unset, .unset, .unset, .unset, .unset, .unset, .unset, .unset, .unset, .unset, .unset, .unset, .unset, .unset, .unset] [(.int i0), (.long s0)])) _
    refine X17.ldcInt hx hown (mvT hZ (hw _ (List.mem_of_getElem? (i := 1) rfl))) (g := (mkF m 106 #[.val (.int im), .val (.int ib), .val (.int i0), .val (.int i1), .val (.int i2), .val (.long ga), .second, .val (.int (im &&& (3 : Int32))), .val (.int (0 : Int32)), .val (.int (1 : Int32)), .val (.ref b1), .val (.long s0), .second, .unset, .unset, .unset, .unset, .unset, .unset, .unset, .unset, .unset, .unset, .unset, .unset, .unset, .unset, .unset, .unset] [(.int i0), (.long s0)])) rfl (hb hby at_106) _ ?_
    refine XS.iand X17.here hx rfl (hb hby at_108) rfl ?_
    refine XS.i2l X17.here hx rfl (hb hby at_109) rfl ?_
    show Steps p.tables e below (T17.setTop (mkF m 110 #[.val (.int im), .val (.int ib), .val (.int i0), .val (.int i1), .val (.int i2), .val (.long ga), .second, .val (.int (im &&& (3 : Int32))), .val (.int (0 : Int32)), .val (.int (1 : Int32)), .val (.ref b1), .val (.long s0), .second, .unset, .unset, .unset, .unset, .unset, .unset, .unset, .unset, .unset, .unset, .unset, .unset, .unset, .unset, .unset, .unset] [(.long ((i0 &&& (2147483647 : Int32)).toInt64)), (.long s0)])) _
    refine XS.ladd X17.here hx rfl (hb hby at_110) rfl ?_
    refine XS.lstore X17.here hx rfl (hb hby at_111) rfl (l' := #[.val (.int im), .val (.int ib), .val (.int i0), .val (.int i1), .val (.int i2), .val (.long ga), .second, .val (.int (im &&& (3 : Int32))), .val (.int (0 : Int32)), .val (.int (1 : Int32)), .val (.ref b1), .val (.long s0), .second, .val (.long (s0 + ((i0 &&& (2147483647 : Int32)).toInt64))), .second, .unset, .unset, .unset, .unset, .unset, .unset, .unset, .unset, .unset, .unset, .unset, .unset, .unset, .unset]) rfl ?_
    exact kt
  obtain ⟨f0, hf0⟩ : ∃ z : Int64, z = (s0 + ((i0 &&& (2147483647 : Int32)).toInt64)) := ⟨_, rfl⟩
  have k25 : ∀ tq, Steps p.tables e below (T17.setTop (mkF m 113 #[.val (.int im), .val (.int ib), .val (.int i0), .val (.int i1), .val (.int i2), .val (.long ga), .second, .val (.int (im &&& (3 : Int32))), .val (.int (0 : Int32)), .val (.int (1 : Int32)), .val (.ref b1), .val (.long s0), .second, .val (.long f0), .second, .unset, .unset, .unset, .unset, .unset, .unset, .unset, .unset, .unset, .unset, .unset, .unset, .unset, .unset] [])) tq → Steps p.tables e below (s₁.setTop (entryFrame m #[(.int im), (.int ib), (.int i0), (.int i1), (.int i2), (.long ga)] maxLocals)) tq := by
    intro tq kt
    subst hf0
    exact k24 tq kt
  have k26 : ∀ tq, Steps p.tables e below (T17.setTop (mkF m 124 #[.val (.int im), .val (.int ib), .val (.int i0), .val (.int i1), .val (.int i2), .val (.long ga), .second, .val (.int (im &&& (3 : Int32))), .val (.int (0 : Int32)), .val (.int (1 : Int32)), .val (.ref b1), .val (.long s0), .second, .val (.long f0), .second, .val (.long (f0 + (ga &&& (1048575 : Int64)))), .second, .unset, .unset, .unset, .unset, .unset, .unset, .unset, .unset, .unset, .unset, .unset, .unset] [])) tq → Steps p.tables e below (s₁.setTop (entryFrame m #[(.int im), (.int ib), (.int i0), (.int i1), (.int i2), (.long ga)] maxLocals)) tq := by
    intro tq kt
    refine k25 tq ?_
    refine XS.lload X17.here hx rfl (hb hby at_113) rfl ?_
    refine XS.lload X17.here hx rfl (hb hby at_115) rfl ?_
    show Steps p.tables e below (T17.setTop (mkF m 117 #[.val (.int im), .val (.int ib), .val (.int i0), .val (.int i1), .val (.int i2), .val (.long ga), .second, .val (.int (im &&& (3 : Int32))), .val (.int (0 : Int32)), .val (.int (1 : Int32)), .val (.ref b1), .val (.long s0), .second, .val (.long f0), .second, .unset, .unset, .unset, .unset, .unset, .unset, .unset, .unset, .unset, .unset, .unset, .unset, .unset, .unset] [(.long ga), (.long f0)])) _
    refine X17.ldc2Long hx hown (mvT hZ (hw _ (List.mem_of_getElem? (i := 2) rfl))) (g := (mkF m 117 #[.val (.int im), .val (.int ib), .val (.int i0), .val (.int i1), .val (.int i2), .val (.long ga), .second, .val (.int (im &&& (3 : Int32))), .val (.int (0 : Int32)), .val (.int (1 : Int32)), .val (.ref b1), .val (.long s0), .second, .val (.long f0), .second, .unset, .unset, .unset, .unset, .unset, .unset, .unset, .unset, .unset, .unset, .unset, .unset, .unset, .unset] [(.long ga), (.long f0)])) rfl (hb hby at_117) _ ?_
    refine XS.land X17.here hx rfl (hb hby at_120) rfl ?_
    show Steps p.tables e below (T17.setTop (mkF m 121 #[.val (.int im), .val (.int ib), .val (.int i0), .val (.int i1), .val (.int i2), .val (.long ga), .second, .val (.int (im &&& (3 : Int32))), .val (.int (0 : Int32)), .val (.int (1 : Int32)), .val (.ref b1), .val (.long s0), .second, .val (.long f0), .second, .unset, .unset, .unset, .unset, .unset, .unset, .unset, .unset, .unset, .unset, .unset, .unset, .unset, .unset] [(.long (ga &&& (1048575 : Int64))), (.long f0)])) _
    refine XS.ladd X17.here hx rfl (hb hby at_121) rfl ?_
    refine XS.lstore X17.here hx rfl (hb hby at_122) rfl (l' := #[.val (.int im), .val (.int ib), .val (.int i0), .val (.int i1), .val (.int i2), .val (.long ga), .second, .val (.int (im &&& (3 : Int32))), .val (.int (0 : Int32)), .val (.int (1 : Int32)), .val (.ref b1), .val (.long s0), .second, .val (.long f0), .second, .val (.long (f0 + (ga &&& (1048575 : Int64)))), .second, .unset, .unset, .unset, .unset, .unset, .unset, .unset, .unset, .unset, .unset, .unset, .unset]) rfl ?_
    exact kt
  obtain ⟨s1, hs1⟩ : ∃ z : Int64, z = (f0 + (ga &&& (1048575 : Int64))) := ⟨_, rfl⟩
  have k27 : ∀ tq, Steps p.tables e below (T17.setTop (mkF m 124 #[.val (.int im), .val (.int ib), .val (.int i0), .val (.int i1), .val (.int i2), .val (.long ga), .second, .val (.int (im &&& (3 : Int32))), .val (.int (0 : Int32)), .val (.int (1 : Int32)), .val (.ref b1), .val (.long s0), .second, .val (.long f0), .second, .val (.long s1), .second, .unset, .unset, .unset, .unset, .unset, .unset, .unset, .unset, .unset, .unset, .unset, .unset] [])) tq → Steps p.tables e below (s₁.setTop (entryFrame m #[(.int im), (.int ib), (.int i0), (.int i1), (.int i2), (.long ga)] maxLocals)) tq := by
    intro tq kt
    subst hs1
    exact k26 tq kt
  have k28 : ∀ tq, Steps p.tables e below (T17.setTop (mkF m 134 #[.val (.int im), .val (.int ib), .val (.int i0), .val (.int i1), .val (.int i2), .val (.long ga), .second, .val (.int (im &&& (3 : Int32))), .val (.int (0 : Int32)), .val (.int (1 : Int32)), .val (.ref b1), .val (.long s0), .second, .val (.long f0), .second, .val (.long s1), .second, .val (.long (s1 + ((i1 &&& (2147483647 : Int32)).toInt64))), .second, .unset, .unset, .unset, .unset, .unset, .unset, .unset, .unset, .unset, .unset] [])) tq → Steps p.tables e below (s₁.setTop (entryFrame m #[(.int im), (.int ib), (.int i0), (.int i1), (.int i2), (.long ga)] maxLocals)) tq := by
    intro tq kt
    refine k27 tq ?_
    refine XS.lload X17.here hx rfl (hb hby at_124) rfl ?_
    refine XS.iloadN X17.here hx rfl (hb hby at_126) rfl ?_
    show Steps p.tables e below (T17.setTop (mkF m 127 #[.val (.int im), .val (.int ib), .val (.int i0), .val (.int i1), .val (.int i2), .val (.long ga), .second, .val (.int (im &&& (3 : Int32))), .val (.int (0 : Int32)), .val (.int (1 : Int32)), .val (.ref b1), .val (.long s0), .second, .val (.long f0), .second, .val (.long s1), .second, .unset, .unset, .unset, .unset, .unset, .unset, .unset, .unset, .unset, .unset, .unset, .unset] [(.int i1), (.long s1)])) _
    refine X17.ldcInt hx hown (mvT hZ (hw _ (List.mem_of_getElem? (i := 1) rfl))) (g := (mkF m 127 #[.val (.int im), .val (.int ib), .val (.int i0), .val (.int i1), .val (.int i2), .val (.long ga), .second, .val (.int (im &&& (3 : Int32))), .val (.int (0 : Int32)), .val (.int (1 : Int32)), .val (.ref b1), .val (.long s0), .second, .val (.long f0), .second, .val (.long s1), .second, .unset, .unset, .unset, .unset, .unset, .unset, .unset, .unset, .unset, .unset, .unset, .unset] [(.int i1), (.long s1)])) rfl (hb hby at_127) _ ?_
    refine XS.iand X17.here hx rfl (hb hby at_129) rfl ?_
    show Steps p.tables e below (T17.setTop (mkF m 130 #[.val (.int im), .val (.int ib), .val (.int i0), .val (.int i1), .val (.int i2), .val (.long ga), .second, .val (.int (im &&& (3 : Int32))), .val (.int (0 : Int32)), .val (.int (1 : Int32)), .val (.ref b1), .val (.long s0), .second, .val (.long f0), .second, .val (.long s1), .second, .unset, .unset, .unset, .unset, .unset, .unset, .unset, .unset, .unset, .unset, .unset, .unset] [(.int (i1 &&& (2147483647 : Int32))), (.long s1)])) _
    refine XS.i2l X17.here hx rfl (hb hby at_130) rfl ?_
    refine XS.ladd X17.here hx rfl (hb hby at_131) rfl ?_
    refine XS.lstore X17.here hx rfl (hb hby at_132) rfl (l' := #[.val (.int im), .val (.int ib), .val (.int i0), .val (.int i1), .val (.int i2), .val (.long ga), .second, .val (.int (im &&& (3 : Int32))), .val (.int (0 : Int32)), .val (.int (1 : Int32)), .val (.ref b1), .val (.long s0), .second, .val (.long f0), .second, .val (.long s1), .second, .val (.long (s1 + ((i1 &&& (2147483647 : Int32)).toInt64))), .second, .unset, .unset, .unset, .unset, .unset, .unset, .unset, .unset, .unset, .unset]) rfl ?_
    exact kt
  obtain ⟨f1, hf1⟩ : ∃ z : Int64, z = (s1 + ((i1 &&& (2147483647 : Int32)).toInt64)) := ⟨_, rfl⟩
  have k29 : ∀ tq, Steps p.tables e below (T17.setTop (mkF m 134 #[.val (.int im), .val (.int ib), .val (.int i0), .val (.int i1), .val (.int i2), .val (.long ga), .second, .val (.int (im &&& (3 : Int32))), .val (.int (0 : Int32)), .val (.int (1 : Int32)), .val (.ref b1), .val (.long s0), .second, .val (.long f0), .second, .val (.long s1), .second, .val (.long f1), .second, .unset, .unset, .unset, .unset, .unset, .unset, .unset, .unset, .unset, .unset] [])) tq → Steps p.tables e below (s₁.setTop (entryFrame m #[(.int im), (.int ib), (.int i0), (.int i1), (.int i2), (.long ga)] maxLocals)) tq := by
    intro tq kt
    subst hf1
    exact k28 tq kt
  have k30 : ∀ tq, Steps p.tables e below (T17.setTop (mkF m 148 #[.val (.int im), .val (.int ib), .val (.int i0), .val (.int i1), .val (.int i2), .val (.long ga), .second, .val (.int (im &&& (3 : Int32))), .val (.int (0 : Int32)), .val (.int (1 : Int32)), .val (.ref b1), .val (.long s0), .second, .val (.long f0), .second, .val (.long s1), .second, .val (.long f1), .second, .val (.long (f1 + (((ga.toUInt64 >>> ((20 : Int32) &&& 0x3f).toInt64.toUInt64).toInt64) &&& (1048575 : Int64)))), .second, .unset, .unset, .unset, .unset, .unset, .unset, .unset, .unset] [])) tq → Steps p.tables e below (s₁.setTop (entryFrame m #[(.int im), (.int ib), (.int i0), (.int i1), (.int i2), (.long ga)] maxLocals)) tq := by
    intro tq kt
    refine k29 tq ?_
    refine XS.lload X17.here hx rfl (hb hby at_134) rfl ?_
    refine XS.lload X17.here hx rfl (hb hby at_136) rfl ?_
    refine XS.bipush X17.here hx rfl (hb hby at_138) ?_
    show Steps p.tables e below (T17.setTop (mkF m 140 #[.val (.int im), .val (.int ib), .val (.int i0), .val (.int i1), .val (.int i2), .val (.long ga), .second, .val (.int (im &&& (3 : Int32))), .val (.int (0 : Int32)), .val (.int (1 : Int32)), .val (.ref b1), .val (.long s0), .second, .val (.long f0), .second, .val (.long s1), .second, .val (.long f1), .second, .unset, .unset, .unset, .unset, .unset, .unset, .unset, .unset, .unset, .unset] [(.int (20 : Int32)), (.long ga), (.long f1)])) _
    refine XS.lushr X17.here hx rfl (hb hby at_140) rfl ?_
    show Steps p.tables e below (T17.setTop (mkF m 141 #[.val (.int im), .val (.int ib), .val (.int i0), .val (.int i1), .val (.int i2), .val (.long ga), .second, .val (.int (im &&& (3 : Int32))), .val (.int (0 : Int32)), .val (.int (1 : Int32)), .val (.ref b1), .val (.long s0), .second, .val (.long f0), .second, .val (.long s1), .second, .val (.long f1), .second, .unset, .unset, .unset, .unset, .unset, .unset, .unset, .unset, .unset, .unset] [(.long ((ga.toUInt64 >>> ((20 : Int32) &&& 0x3f).toInt64.toUInt64).toInt64)), (.long f1)])) _
    refine X17.ldc2Long hx hown (mvT hZ (hw _ (List.mem_of_getElem? (i := 2) rfl))) (g := (mkF m 141 #[.val (.int im), .val (.int ib), .val (.int i0), .val (.int i1), .val (.int i2), .val (.long ga), .second, .val (.int (im &&& (3 : Int32))), .val (.int (0 : Int32)), .val (.int (1 : Int32)), .val (.ref b1), .val (.long s0), .second, .val (.long f0), .second, .val (.long s1), .second, .val (.long f1), .second, .unset, .unset, .unset, .unset, .unset, .unset, .unset, .unset, .unset, .unset] [(.long ((ga.toUInt64 >>> ((20 : Int32) &&& 0x3f).toInt64.toUInt64).toInt64)), (.long f1)])) rfl (hb hby at_141) _ ?_
    refine XS.land X17.here hx rfl (hb hby at_144) rfl ?_
    refine XS.ladd X17.here hx rfl (hb hby at_145) rfl ?_
    refine XS.lstore X17.here hx rfl (hb hby at_146) rfl (l' := #[.val (.int im), .val (.int ib), .val (.int i0), .val (.int i1), .val (.int i2), .val (.long ga), .second, .val (.int (im &&& (3 : Int32))), .val (.int (0 : Int32)), .val (.int (1 : Int32)), .val (.ref b1), .val (.long s0), .second, .val (.long f0), .second, .val (.long s1), .second, .val (.long f1), .second, .val (.long (f1 + (((ga.toUInt64 >>> ((20 : Int32) &&& 0x3f).toInt64.toUInt64).toInt64) &&& (1048575 : Int64)))), .second, .unset, .unset, .unset, .unset, .unset, .unset, .unset, .unset]) rfl ?_
    exact kt
  obtain ⟨s2, hs2⟩ : ∃ z : Int64, z = (f1 + (((ga.toUInt64 >>> ((20 : Int32) &&& 0x3f).toInt64.toUInt64).toInt64) &&& (1048575 : Int64))) := ⟨_, rfl⟩
  have k31 : ∀ tq, Steps p.tables e below (T17.setTop (mkF m 148 #[.val (.int im), .val (.int ib), .val (.int i0), .val (.int i1), .val (.int i2), .val (.long ga), .second, .val (.int (im &&& (3 : Int32))), .val (.int (0 : Int32)), .val (.int (1 : Int32)), .val (.ref b1), .val (.long s0), .second, .val (.long f0), .second, .val (.long s1), .second, .val (.long f1), .second, .val (.long s2), .second, .unset, .unset, .unset, .unset, .unset, .unset, .unset, .unset] [])) tq → Steps p.tables e below (s₁.setTop (entryFrame m #[(.int im), (.int ib), (.int i0), (.int i1), (.int i2), (.long ga)] maxLocals)) tq := by
    intro tq kt
    subst hs2
    exact k30 tq kt
  have k32 : ∀ tq, Steps p.tables e below (T17.setTop (mkF m 159 #[.val (.int im), .val (.int ib), .val (.int i0), .val (.int i1), .val (.int i2), .val (.long ga), .second, .val (.int (im &&& (3 : Int32))), .val (.int (0 : Int32)), .val (.int (1 : Int32)), .val (.ref b1), .val (.long s0), .second, .val (.long f0), .second, .val (.long s1), .second, .val (.long f1), .second, .val (.long s2), .second, .val (.long (s2 + ((i2 &&& (2147483647 : Int32)).toInt64))), .second, .unset, .unset, .unset, .unset, .unset, .unset] [])) tq → Steps p.tables e below (s₁.setTop (entryFrame m #[(.int im), (.int ib), (.int i0), (.int i1), (.int i2), (.long ga)] maxLocals)) tq := by
    intro tq kt
    refine k31 tq ?_
    refine XS.lload X17.here hx rfl (hb hby at_148) rfl ?_
    show Steps p.tables e below (T17.setTop (mkF m 150 #[.val (.int im), .val (.int ib), .val (.int i0), .val (.int i1), .val (.int i2), .val (.long ga), .second, .val (.int (im &&& (3 : Int32))), .val (.int (0 : Int32)), .val (.int (1 : Int32)), .val (.ref b1), .val (.long s0), .second, .val (.long f0), .second, .val (.long s1), .second, .val (.long f1), .second, .val (.long s2), .second, .unset, .unset, .unset, .unset, .unset, .unset, .unset, .unset] [(.long s2)])) _
    refine XS.iload X17.here hx rfl (hb hby at_150) rfl ?_
    show Steps p.tables e below (T17.setTop (mkF m 152 #[.val (.int im), .val (.int ib), .val (.int i0), .val (.int i1), .val (.int i2), .val (.long ga), .second, .val (.int (im &&& (3 : Int32))), .val (.int (0 : Int32)), .val (.int (1 : Int32)), .val (.ref b1), .val (.long s0), .second, .val (.long f0), .second, .val (.long s1), .second, .val (.long f1), .second, .val (.long s2), .second, .unset, .unset, .unset, .unset, .unset, .unset, .unset, .unset] [(.int i2), (.long s2)])) _
    refine X17.ldcInt hx hown (mvT hZ (hw _ (List.mem_of_getElem? (i := 1) rfl))) (g := (mkF m 152 #[.val (.int im), .val (.int ib), .val (.int i0), .val (.int i1), .val (.int i2), .val (.long ga), .second, .val (.int (im &&& (3 : Int32))), .val (.int (0 : Int32)), .val (.int (1 : Int32)), .val (.ref b1), .val (.long s0), .second, .val (.long f0), .second, .val (.long s1), .second, .val (.long f1), .second, .val (.long s2), .second, .unset, .unset, .unset, .unset, .unset, .unset, .unset, .unset] [(.int i2), (.long s2)])) rfl (hb hby at_152) _ ?_
    refine XS.iand X17.here hx rfl (hb hby at_154) rfl ?_
    refine XS.i2l X17.here hx rfl (hb hby at_155) rfl ?_
    refine XS.ladd X17.here hx rfl (hb hby at_156) rfl ?_
    refine XS.lstore X17.here hx rfl (hb hby at_157) rfl (l' := #[.val (.int im), .val (.int ib), .val (.int i0), .val (.int i1), .val (.int i2), .val (.long ga), .second, .val (.int (im &&& (3 : Int32))), .val (.int (0 : Int32)), .val (.int (1 : Int32)), .val (.ref b1), .val (.long s0), .second, .val (.long f0), .second, .val (.long s1), .second, .val (.long f1), .second, .val (.long s2), .second, .val (.long (s2 + ((i2 &&& (2147483647 : Int32)).toInt64))), .second, .unset, .unset, .unset, .unset, .unset, .unset]) rfl ?_
    exact kt
  obtain ⟨f2, hf2⟩ : ∃ z : Int64, z = (s2 + ((i2 &&& (2147483647 : Int32)).toInt64)) := ⟨_, rfl⟩
  have k33 : ∀ tq, Steps p.tables e below (T17.setTop (mkF m 159 #[.val (.int im), .val (.int ib), .val (.int i0), .val (.int i1), .val (.int i2), .val (.long ga), .second, .val (.int (im &&& (3 : Int32))), .val (.int (0 : Int32)), .val (.int (1 : Int32)), .val (.ref b1), .val (.long s0), .second, .val (.long f0), .second, .val (.long s1), .second, .val (.long f1), .second, .val (.long s2), .second, .val (.long f2), .second, .unset, .unset, .unset, .unset, .unset, .unset] [])) tq → Steps p.tables e below (s₁.setTop (entryFrame m #[(.int im), (.int ib), (.int i0), (.int i1), (.int i2), (.long ga)] maxLocals)) tq := by
    intro tq kt
    subst hf2
    exact k32 tq kt
  subst hs0
  have ho := own_order hf0 hs1 hf1 hs2 hf2
  obtain ⟨T34, h34, k34, X34, e34, E34, A34, st34⟩ := newP X17 hx hZ (hw _ (List.mem_of_getElem? (i := 3) rfl)) e17 (g := (mkF m 160 #[.val (.int im), .val (.int ib), .val (.int i0), .val (.int i1), .val (.int i2), .val (.long ga), .second, .val (.int (im &&& (3 : Int32))), .val (.int (0 : Int32)), .val (.int (1 : Int32)), .val (.ref b1), .val (.long (ib.toInt64)), .second, .val (.long f0), .second, .val (.long s1), .second, .val (.long f1), .second, .val (.long s2), .second, .val (.long f2), .second, .unset, .unset, .unset, .unset, .unset, .unset] [(.int (3 : Int32))])) rfl (hb hby at_160) rfl (by decide) (cap := 3) (by decide) (by decide) (by decide) (by decide)
  obtain ⟨b34, g34⟩ : ∃ z, z = h17.size := ⟨_, rfl⟩
  rw [← g34] at A34 st34
  have ne_b1_b34 : b1 ≠ b34 := Nat.ne_of_lt (Nat.lt_of_lt_of_le v18.lt (Nat.le_of_eq g34.symm))
  have g_b34 : n0 ≤ b34 := Nat.le_trans z20 (Nat.le_of_eq g34.symm)
  have sz_b34 : h0.size ≤ b34 := Nat.le_trans kp19.1 (Nat.le_of_eq g34.symm)
  have f35 := v18.ext E34
  have z36 := Nat.le_trans z20 E34.1
  have kp37 := kp19.ext E34
  have V_b34 : Arv Z h34 b34 k34 .double (3 : Int32) [(.double (0 : UInt64)), (.double (0 : UInt64)), (.double (0 : UInt64))] (.double (0 : UInt64)) := (Arv.new A34 (by decide)).pad (pad_rep [] (.double (0 : UInt64)) 3)
  obtain ⟨T38, h38, k38, X38, e38, E38, A38, st38⟩ := newP X34 hx hZ (hw _ (List.mem_of_getElem? (i := 3) rfl)) e34 (g := (mkF m 165 #[.val (.int im), .val (.int ib), .val (.int i0), .val (.int i1), .val (.int i2), .val (.long ga), .second, .val (.int (im &&& (3 : Int32))), .val (.int (0 : Int32)), .val (.int (1 : Int32)), .val (.ref b1), .val (.long (ib.toInt64)), .second, .val (.long f0), .second, .val (.long s1), .second, .val (.long f1), .second, .val (.long s2), .second, .val (.long f2), .second, .val (.ref b34), .unset, .unset, .unset, .unset, .unset] [(.int (3 : Int32))])) rfl (hb hby at_165) rfl (by decide) (cap := 3) (by decide) (by decide) (by decide) (by decide)
  obtain ⟨b38, g38⟩ : ∃ z, z = h34.size := ⟨_, rfl⟩
  rw [← g38] at A38 st38
  have ne_b1_b38 : b1 ≠ b38 := Nat.ne_of_lt (Nat.lt_of_lt_of_le f35.lt (Nat.le_of_eq g38.symm))
  have ne_b34_b38 : b34 ≠ b38 := Nat.ne_of_lt (Nat.lt_of_lt_of_le V_b34.lt (Nat.le_of_eq g38.symm))
  have g_b38 : n0 ≤ b38 := Nat.le_trans z36 (Nat.le_of_eq g38.symm)
  have sz_b38 : h0.size ≤ b38 := Nat.le_trans kp37.1 (Nat.le_of_eq g38.symm)
  have f39 := f35.ext E38
  have f40 := V_b34.ext E38
  have z41 := Nat.le_trans z36 E38.1
  have kp42 := kp37.ext E38
  have V_b38 : Arv Z h38 b38 k38 .double (3 : Int32) [(.double (0 : UInt64)), (.double (0 : UInt64)), (.double (0 : UInt64))] (.double (0 : UInt64)) := (Arv.new A38 (by decide)).pad (pad_rep [] (.double (0 : UInt64)) 3)
  obtain ⟨T43, h43, k43, X43, e43, E43, A43, st43⟩ := newP X38 hx hZ (hw _ (List.mem_of_getElem? (i := 4) rfl)) e38 (g := (mkF m 170 #[.val (.int im), .val (.int ib), .val (.int i0), .val (.int i1), .val (.int i2), .val (.long ga), .second, .val (.int (im &&& (3 : Int32))), .val (.int (0 : Int32)), .val (.int (1 : Int32)), .val (.ref b1), .val (.long (ib.toInt64)), .second, .val (.long f0), .second, .val (.long s1), .second, .val (.long f1), .second, .val (.long s2), .second, .val (.long f2), .second, .val (.ref b34), .val (.ref b38), .unset, .unset, .unset, .unset] [(.int (3 : Int32))])) rfl (hb hby at_170) rfl (by decide) (cap := 3) (by decide) (by decide) (by decide) (by decide)
  obtain ⟨b43, g43⟩ : ∃ z, z = h38.size := ⟨_, rfl⟩
  rw [← g43] at A43 st43
  have ne_b1_b43 : b1 ≠ b43 := Nat.ne_of_lt (Nat.lt_of_lt_of_le f39.lt (Nat.le_of_eq g43.symm))
  have ne_b34_b43 : b34 ≠ b43 := Nat.ne_of_lt (Nat.lt_of_lt_of_le f40.lt (Nat.le_of_eq g43.symm))
  have ne_b38_b43 : b38 ≠ b43 := Nat.ne_of_lt (Nat.lt_of_lt_of_le V_b38.lt (Nat.le_of_eq g43.symm))
  have g_b43 : n0 ≤ b43 := Nat.le_trans z41 (Nat.le_of_eq g43.symm)
  have sz_b43 : h0.size ≤ b43 := Nat.le_trans kp42.1 (Nat.le_of_eq g43.symm)
  have f44 := f39.ext E43
  have f45 := f40.ext E43
  have f46 := V_b38.ext E43
  have z47 := Nat.le_trans z41 E43.1
  have kp48 := kp42.ext E43
  have V_b43 : Arv Z h43 b43 k43 .long (3 : Int32) [(.long (0 : Int64)), (.long (0 : Int64)), (.long (0 : Int64))] (.long (0 : Int64)) := (Arv.new A43 (by decide)).pad (pad_rep [] (.long (0 : Int64)) 3)
  obtain ⟨clq49, Arq49, cq49, Sq49, nq49, Hq49, Gq49⟩ := id f44
  have hiq49 : ¬ ((0 : Int32) < 0 ∨ clq49.slots.size ≤ ((0 : Int32)).toNatClampNeg) := inb_of Sq49 ⟨by decide, by decide⟩
  have haq49 : clq49.slots[((0 : Int32)).toNatClampNeg]? = some (.int (1 : Int32)) := Hq49.at hiq49 rfl
  obtain ⟨clq50, Arq50, cq50, Sq50, nq50, Hq50, Gq50⟩ := id f45
  have hiq50 : ¬ ((1 : Int32) < 0 ∨ clq50.slots.size ≤ ((1 : Int32)).toNatClampNeg) := inb_of Sq50 ⟨by decide, by decide⟩
  obtain ⟨T51, h51, X51, e51, W51, st51⟩ := stD X43 hx hZ e43 Arq50 (j := (1 : Int32)) hiq50 (g := (mkF m 183 #[.val (.int im), .val (.int ib), .val (.int i0), .val (.int i1), .val (.int i2), .val (.long ga), .second, .val (.int (im &&& (3 : Int32))), .val (.int (0 : Int32)), .val (.int (1 : Int32)), .val (.ref b1), .val (.long (ib.toInt64)), .second, .val (.long f0), .second, .val (.long s1), .second, .val (.long f1), .second, .val (.long s2), .second, .val (.long f2), .second, .val (.ref b34), .val (.ref b38), .val (.ref b43), .unset, .unset, .unset] [(.double (FP.l2d (ib.toInt64))), (.int (1 : Int32)), (.ref b34)])) rfl rfl (hb hby at_183)
  have v52 : Arv Z h51 b34 k34 .double (3 : Int32) [(.double (0 : UInt64)), (.double (FP.l2d (ib.toInt64))), (.double (0 : UInt64))] (.double (0 : UInt64)) := Arv.set Arq50 cq50 Sq50 nq50 Hq50 Gq50 rfl W51 1 rfl (Nat.le_of_ble_eq_true rfl)
  have f53 := f44.other W51 ne_b1_b34
  have f54 := f46.other W51 (Ne.symm ne_b34_b38)
  have f55 := V_b43.other W51 (Ne.symm ne_b34_b43)
  have kp56 := kp48.wr W51 (Or.inr sz_b34)
  have z57 := Nat.le_trans z47 (Keep.of_wr W51).1
  have N58 := Fr.snoc X51 N21 g_b34
  obtain ⟨clq59, Arq59, cq59, Sq59, nq59, Hq59, Gq59⟩ := id f53
  have hiq59 : ¬ ((0 : Int32) < 0 ∨ clq59.slots.size ≤ ((0 : Int32)).toNatClampNeg) := inb_of Sq59 ⟨by decide, by decide⟩
  have haq59 : clq59.slots[((0 : Int32)).toNatClampNeg]? = some (.int (1 : Int32)) := Hq59.at hiq59 rfl
  obtain ⟨clq60, Arq60, cq60, Sq60, nq60, Hq60, Gq60⟩ := id f54
  have hiq60 : ¬ ((1 : Int32) < 0 ∨ clq60.slots.size ≤ ((1 : Int32)).toNatClampNeg) := inb_of Sq60 ⟨by decide, by decide⟩
  obtain ⟨T61, h61, X61, e61, W61, st61⟩ := stD X51 hx hZ e51 Arq60 (j := (1 : Int32)) hiq60 (g := (mkF m 193 #[.val (.int im), .val (.int ib), .val (.int i0), .val (.int i1), .val (.int i2), .val (.long ga), .second, .val (.int (im &&& (3 : Int32))), .val (.int (0 : Int32)), .val (.int (1 : Int32)), .val (.ref b1), .val (.long (ib.toInt64)), .second, .val (.long f0), .second, .val (.long s1), .second, .val (.long f1), .second, .val (.long s2), .second, .val (.long f2), .second, .val (.ref b34), .val (.ref b38), .val (.ref b43), .unset, .unset, .unset] [(.double (FP.l2d f0)), (.int (1 : Int32)), (.ref b38)])) rfl rfl (hb hby at_193)
  have v62 : Arv Z h61 b38 k38 .double (3 : Int32) [(.double (0 : UInt64)), (.double (FP.l2d f0)), (.double (0 : UInt64))] (.double (0 : UInt64)) := Arv.set Arq60 cq60 Sq60 nq60 Hq60 Gq60 rfl W61 1 rfl (Nat.le_of_ble_eq_true rfl)
  have f63 := f53.other W61 ne_b1_b38
  have f64 := f55.other W61 (Ne.symm ne_b38_b43)
  have f65 := v52.other W61 ne_b34_b38
  have kp66 := kp56.wr W61 (Or.inr sz_b38)
  have z67 := Nat.le_trans z57 (Keep.of_wr W61).1
  have N68 := Fr.snoc X61 N58 g_b38
  obtain ⟨clq69, Arq69, cq69, Sq69, nq69, Hq69, Gq69⟩ := id f63
  have hiq69 : ¬ ((0 : Int32) < 0 ∨ clq69.slots.size ≤ ((0 : Int32)).toNatClampNeg) := inb_of Sq69 ⟨by decide, by decide⟩
  have haq69 : clq69.slots[((0 : Int32)).toNatClampNeg]? = some (.int (1 : Int32)) := Hq69.at hiq69 rfl
  obtain ⟨clq70, Arq70, cq70, Sq70, nq70, Hq70, Gq70⟩ := id f64
  have hiq70 : ¬ ((1 : Int32) < 0 ∨ clq70.slots.size ≤ ((1 : Int32)).toNatClampNeg) := inb_of Sq70 ⟨by decide, by decide⟩
  obtain ⟨T71, h71, X71, e71, W71, st71⟩ := stJ X61 hx hZ e61 Arq70 (j := (1 : Int32)) hiq70 (g := (mkF m 202 #[.val (.int im), .val (.int ib), .val (.int i0), .val (.int i1), .val (.int i2), .val (.long ga), .second, .val (.int (im &&& (3 : Int32))), .val (.int (0 : Int32)), .val (.int (1 : Int32)), .val (.ref b1), .val (.long (ib.toInt64)), .second, .val (.long f0), .second, .val (.long s1), .second, .val (.long f1), .second, .val (.long s2), .second, .val (.long f2), .second, .val (.ref b34), .val (.ref b38), .val (.ref b43), .unset, .unset, .unset] [(.long f0), (.int (1 : Int32)), (.ref b43)])) rfl rfl (hb hby at_202)
  have v72 : Arv Z h71 b43 k43 .long (3 : Int32) [(.long (0 : Int64)), (.long f0), (.long (0 : Int64))] (.long (0 : Int64)) := Arv.set Arq70 cq70 Sq70 nq70 Hq70 Gq70 rfl W71 1 rfl (Nat.le_of_ble_eq_true rfl)
  have f73 := f63.other W71 ne_b1_b43
  have f74 := f65.other W71 ne_b34_b43
  have f75 := v62.other W71 ne_b38_b43
  have kp76 := kp66.wr W71 (Or.inr sz_b43)
  have z77 := Nat.le_trans z67 (Keep.of_wr W71).1
  have N78 := Fr.snoc X71 N68 g_b43
  obtain ⟨clq79, Arq79, cq79, Sq79, nq79, Hq79, Gq79⟩ := id f73
  have hiq79 : ¬ ((1 : Int32) < 0 ∨ clq79.slots.size ≤ ((1 : Int32)).toNatClampNeg) := inb_of Sq79 ⟨by decide, by decide⟩
  have haq79 : clq79.slots[((1 : Int32)).toNatClampNeg]? = some (.int (0 : Int32)) := Hq79.at hiq79 rfl
  obtain ⟨clq80, Arq80, cq80, Sq80, nq80, Hq80, Gq80⟩ := id f74
  have hiq80 : ¬ ((0 : Int32) < 0 ∨ clq80.slots.size ≤ ((0 : Int32)).toNatClampNeg) := inb_of Sq80 ⟨by decide, by decide⟩
  obtain ⟨T81, h81, X81, e81, W81, st81⟩ := stD X71 hx hZ e71 Arq80 (j := (0 : Int32)) hiq80 (g := (mkF m 212 #[.val (.int im), .val (.int ib), .val (.int i0), .val (.int i1), .val (.int i2), .val (.long ga), .second, .val (.int (im &&& (3 : Int32))), .val (.int (0 : Int32)), .val (.int (1 : Int32)), .val (.ref b1), .val (.long (ib.toInt64)), .second, .val (.long f0), .second, .val (.long s1), .second, .val (.long f1), .second, .val (.long s2), .second, .val (.long f2), .second, .val (.ref b34), .val (.ref b38), .val (.ref b43), .unset, .unset, .unset] [(.double (FP.l2d s1)), (.int (0 : Int32)), (.ref b34)])) rfl rfl (hb hby at_212)
  have v82 : Arv Z h81 b34 k34 .double (3 : Int32) [(.double (FP.l2d s1)), (.double (FP.l2d (ib.toInt64))), (.double (0 : UInt64))] (.double (0 : UInt64)) := Arv.set Arq80 cq80 Sq80 nq80 Hq80 Gq80 rfl W81 0 rfl (Nat.le_of_ble_eq_true rfl)
  have f83 := f73.other W81 ne_b1_b34
  have f84 := f75.other W81 (Ne.symm ne_b34_b38)
  have f85 := v72.other W81 (Ne.symm ne_b34_b43)
  have kp86 := kp76.wr W81 (Or.inr sz_b34)
  have z87 := Nat.le_trans z77 (Keep.of_wr W81).1
  have N88 := Fr.snoc X81 N78 g_b34
  obtain ⟨clq89, Arq89, cq89, Sq89, nq89, Hq89, Gq89⟩ := id f83
  have hiq89 : ¬ ((1 : Int32) < 0 ∨ clq89.slots.size ≤ ((1 : Int32)).toNatClampNeg) := inb_of Sq89 ⟨by decide, by decide⟩
  have haq89 : clq89.slots[((1 : Int32)).toNatClampNeg]? = some (.int (0 : Int32)) := Hq89.at hiq89 rfl
  obtain ⟨clq90, Arq90, cq90, Sq90, nq90, Hq90, Gq90⟩ := id f84
  have hiq90 : ¬ ((0 : Int32) < 0 ∨ clq90.slots.size ≤ ((0 : Int32)).toNatClampNeg) := inb_of Sq90 ⟨by decide, by decide⟩
  obtain ⟨T91, h91, X91, e91, W91, st91⟩ := stD X81 hx hZ e81 Arq90 (j := (0 : Int32)) hiq90 (g := (mkF m 222 #[.val (.int im), .val (.int ib), .val (.int i0), .val (.int i1), .val (.int i2), .val (.long ga), .second, .val (.int (im &&& (3 : Int32))), .val (.int (0 : Int32)), .val (.int (1 : Int32)), .val (.ref b1), .val (.long (ib.toInt64)), .second, .val (.long f0), .second, .val (.long s1), .second, .val (.long f1), .second, .val (.long s2), .second, .val (.long f2), .second, .val (.ref b34), .val (.ref b38), .val (.ref b43), .unset, .unset, .unset] [(.double (FP.l2d f1)), (.int (0 : Int32)), (.ref b38)])) rfl rfl (hb hby at_222)
  have v92 : Arv Z h91 b38 k38 .double (3 : Int32) [(.double (FP.l2d f1)), (.double (FP.l2d f0)), (.double (0 : UInt64))] (.double (0 : UInt64)) := Arv.set Arq90 cq90 Sq90 nq90 Hq90 Gq90 rfl W91 0 rfl (Nat.le_of_ble_eq_true rfl)
  have f93 := f83.other W91 ne_b1_b38
  have f94 := f85.other W91 (Ne.symm ne_b38_b43)
  have f95 := v82.other W91 ne_b34_b38
  have kp96 := kp86.wr W91 (Or.inr sz_b38)
  have z97 := Nat.le_trans z87 (Keep.of_wr W91).1
  have N98 := Fr.snoc X91 N88 g_b38
  obtain ⟨clq99, Arq99, cq99, Sq99, nq99, Hq99, Gq99⟩ := id f93
  have hiq99 : ¬ ((1 : Int32) < 0 ∨ clq99.slots.size ≤ ((1 : Int32)).toNatClampNeg) := inb_of Sq99 ⟨by decide, by decide⟩
  have haq99 : clq99.slots[((1 : Int32)).toNatClampNeg]? = some (.int (0 : Int32)) := Hq99.at hiq99 rfl
  obtain ⟨clq100, Arq100, cq100, Sq100, nq100, Hq100, Gq100⟩ := id f94
  have hiq100 : ¬ ((0 : Int32) < 0 ∨ clq100.slots.size ≤ ((0 : Int32)).toNatClampNeg) := inb_of Sq100 ⟨by decide, by decide⟩
  obtain ⟨T101, h101, X101, e101, W101, st101⟩ := stJ X91 hx hZ e91 Arq100 (j := (0 : Int32)) hiq100 (g := (mkF m 231 #[.val (.int im), .val (.int ib), .val (.int i0), .val (.int i1), .val (.int i2), .val (.long ga), .second, .val (.int (im &&& (3 : Int32))), .val (.int (0 : Int32)), .val (.int (1 : Int32)), .val (.ref b1), .val (.long (ib.toInt64)), .second, .val (.long f0), .second, .val (.long s1), .second, .val (.long f1), .second, .val (.long s2), .second, .val (.long f2), .second, .val (.ref b34), .val (.ref b38), .val (.ref b43), .unset, .unset, .unset] [(.long f1), (.int (0 : Int32)), (.ref b43)])) rfl rfl (hb hby at_231)
  have v102 : Arv Z h101 b43 k43 .long (3 : Int32) [(.long f1), (.long f0), (.long (0 : Int64))] (.long (0 : Int64)) := Arv.set Arq100 cq100 Sq100 nq100 Hq100 Gq100 rfl W101 0 rfl (Nat.le_of_ble_eq_true rfl)
  have f103 := f93.other W101 ne_b1_b43
  have f104 := f95.other W101 ne_b34_b43
  have f105 := v92.other W101 ne_b38_b43
  have kp106 := kp96.wr W101 (Or.inr sz_b43)
  have z107 := Nat.le_trans z97 (Keep.of_wr W101).1
  have N108 := Fr.snoc X101 N98 g_b43
  obtain ⟨clq109, Arq109, cq109, Sq109, nq109, Hq109, Gq109⟩ := id f103
  have hiq109 : ¬ ((2 : Int32) < 0 ∨ clq109.slots.size ≤ ((2 : Int32)).toNatClampNeg) := inb_of Sq109 ⟨by decide, by decide⟩
  have haq109 : clq109.slots[((2 : Int32)).toNatClampNeg]? = some (.int (2 : Int32)) := Hq109.at hiq109 rfl
  obtain ⟨clq110, Arq110, cq110, Sq110, nq110, Hq110, Gq110⟩ := id f104
  have hiq110 : ¬ ((2 : Int32) < 0 ∨ clq110.slots.size ≤ ((2 : Int32)).toNatClampNeg) := inb_of Sq110 ⟨by decide, by decide⟩
  obtain ⟨T111, h111, X111, e111, W111, st111⟩ := stD X101 hx hZ e101 Arq110 (j := (2 : Int32)) hiq110 (g := (mkF m 241 #[.val (.int im), .val (.int ib), .val (.int i0), .val (.int i1), .val (.int i2), .val (.long ga), .second, .val (.int (im &&& (3 : Int32))), .val (.int (0 : Int32)), .val (.int (1 : Int32)), .val (.ref b1), .val (.long (ib.toInt64)), .second, .val (.long f0), .second, .val (.long s1), .second, .val (.long f1), .second, .val (.long s2), .second, .val (.long f2), .second, .val (.ref b34), .val (.ref b38), .val (.ref b43), .unset, .unset, .unset] [(.double (FP.l2d s2)), (.int (2 : Int32)), (.ref b34)])) rfl rfl (hb hby at_241)
  have v112 : Arv Z h111 b34 k34 .double (3 : Int32) [(.double (FP.l2d s1)), (.double (FP.l2d (ib.toInt64))), (.double (FP.l2d s2))] (.double (0 : UInt64)) := Arv.set Arq110 cq110 Sq110 nq110 Hq110 Gq110 rfl W111 2 rfl (Nat.le_of_ble_eq_true rfl)
  have f113 := f103.other W111 ne_b1_b34
  have f114 := f105.other W111 (Ne.symm ne_b34_b38)
  have f115 := v102.other W111 (Ne.symm ne_b34_b43)
  have kp116 := kp106.wr W111 (Or.inr sz_b34)
  have z117 := Nat.le_trans z107 (Keep.of_wr W111).1
  have N118 := Fr.snoc X111 N108 g_b34
  obtain ⟨clq119, Arq119, cq119, Sq119, nq119, Hq119, Gq119⟩ := id f113
  have hiq119 : ¬ ((2 : Int32) < 0 ∨ clq119.slots.size ≤ ((2 : Int32)).toNatClampNeg) := inb_of Sq119 ⟨by decide, by decide⟩
  have haq119 : clq119.slots[((2 : Int32)).toNatClampNeg]? = some (.int (2 : Int32)) := Hq119.at hiq119 rfl
  obtain ⟨clq120, Arq120, cq120, Sq120, nq120, Hq120, Gq120⟩ := id f114
  have hiq120 : ¬ ((2 : Int32) < 0 ∨ clq120.slots.size ≤ ((2 : Int32)).toNatClampNeg) := inb_of Sq120 ⟨by decide, by decide⟩
  obtain ⟨T121, h121, X121, e121, W121, st121⟩ := stD X111 hx hZ e111 Arq120 (j := (2 : Int32)) hiq120 (g := (mkF m 251 #[.val (.int im), .val (.int ib), .val (.int i0), .val (.int i1), .val (.int i2), .val (.long ga), .second, .val (.int (im &&& (3 : Int32))), .val (.int (0 : Int32)), .val (.int (1 : Int32)), .val (.ref b1), .val (.long (ib.toInt64)), .second, .val (.long f0), .second, .val (.long s1), .second, .val (.long f1), .second, .val (.long s2), .second, .val (.long f2), .second, .val (.ref b34), .val (.ref b38), .val (.ref b43), .unset, .unset, .unset] [(.double (FP.l2d f2)), (.int (2 : Int32)), (.ref b38)])) rfl rfl (hb hby at_251)
  have v122 : Arv Z h121 b38 k38 .double (3 : Int32) [(.double (FP.l2d f1)), (.double (FP.l2d f0)), (.double (FP.l2d f2))] (.double (0 : UInt64)) := Arv.set Arq120 cq120 Sq120 nq120 Hq120 Gq120 rfl W121 2 rfl (Nat.le_of_ble_eq_true rfl)
  have f123 := f113.other W121 ne_b1_b38
  have f124 := f115.other W121 (Ne.symm ne_b38_b43)
  have f125 := v112.other W121 ne_b34_b38
  have kp126 := kp116.wr W121 (Or.inr sz_b38)
  have z127 := Nat.le_trans z117 (Keep.of_wr W121).1
  have N128 := Fr.snoc X121 N118 g_b38
  obtain ⟨clq129, Arq129, cq129, Sq129, nq129, Hq129, Gq129⟩ := id f123
  have hiq129 : ¬ ((2 : Int32) < 0 ∨ clq129.slots.size ≤ ((2 : Int32)).toNatClampNeg) := inb_of Sq129 ⟨by decide, by decide⟩
  have haq129 : clq129.slots[((2 : Int32)).toNatClampNeg]? = some (.int (2 : Int32)) := Hq129.at hiq129 rfl
  obtain ⟨clq130, Arq130, cq130, Sq130, nq130, Hq130, Gq130⟩ := id f124
  have hiq130 : ¬ ((2 : Int32) < 0 ∨ clq130.slots.size ≤ ((2 : Int32)).toNatClampNeg) := inb_of Sq130 ⟨by decide, by decide⟩
  obtain ⟨T131, h131, X131, e131, W131, st131⟩ := stJ X121 hx hZ e121 Arq130 (j := (2 : Int32)) hiq130 (g := (mkF m 260 #[.val (.int im), .val (.int ib), .val (.int i0), .val (.int i1), .val (.int i2), .val (.long ga), .second, .val (.int (im &&& (3 : Int32))), .val (.int (0 : Int32)), .val (.int (1 : Int32)), .val (.ref b1), .val (.long (ib.toInt64)), .second, .val (.long f0), .second, .val (.long s1), .second, .val (.long f1), .second, .val (.long s2), .second, .val (.long f2), .second, .val (.ref b34), .val (.ref b38), .val (.ref b43), .unset, .unset, .unset] [(.long f2), (.int (2 : Int32)), (.ref b43)])) rfl rfl (hb hby at_260)
  have v132 : Arv Z h131 b43 k43 .long (3 : Int32) [(.long f1), (.long f0), (.long f2)] (.long (0 : Int64)) := Arv.set Arq130 cq130 Sq130 nq130 Hq130 Gq130 rfl W131 2 rfl (Nat.le_of_ble_eq_true rfl)
  have f133 := f123.other W131 ne_b1_b43
  have f134 := f125.other W131 ne_b34_b43
  have f135 := v122.other W131 ne_b38_b43
  have kp136 := kp126.wr W131 (Or.inr sz_b43)
  have z137 := Nat.le_trans z127 (Keep.of_wr W131).1
  have N138 := Fr.snoc X131 N128 g_b43
  obtain ⟨T139, h139, X139, e139, E139, A139, D139, U139, st139⟩ := newO X131 hx hZ hown (hw _ (List.mem_of_getElem? (i := 5) rfl)) (hw _ (List.mem_of_getElem? (i := 6) rfl)) (hw _ (List.mem_of_getElem? (i := 7) rfl)) e131 (g := (mkF m 261 #[.val (.int im), .val (.int ib), .val (.int i0), .val (.int i1), .val (.int i2), .val (.long ga), .second, .val (.int (im &&& (3 : Int32))), .val (.int (0 : Int32)), .val (.int (1 : Int32)), .val (.ref b1), .val (.long (ib.toInt64)), .second, .val (.long f0), .second, .val (.long s1), .second, .val (.long f1), .second, .val (.long s2), .second, .val (.long f2), .second, .val (.ref b34), .val (.ref b38), .val (.ref b43), .unset, .unset, .unset] [])) rfl (hb hby at_261) (by decide) (by decide)
  obtain ⟨b139, g139⟩ : ∃ z, z = h131.size := ⟨_, rfl⟩
  rw [← g139] at A139 D139 U139 st139
  have ne_b1_b139 : b1 ≠ b139 := Nat.ne_of_lt (Nat.lt_of_lt_of_le f133.lt (Nat.le_of_eq g139.symm))
  have ne_b34_b139 : b34 ≠ b139 := Nat.ne_of_lt (Nat.lt_of_lt_of_le f134.lt (Nat.le_of_eq g139.symm))
  have ne_b38_b139 : b38 ≠ b139 := Nat.ne_of_lt (Nat.lt_of_lt_of_le f135.lt (Nat.le_of_eq g139.symm))
  have ne_b43_b139 : b43 ≠ b139 := Nat.ne_of_lt (Nat.lt_of_lt_of_le v132.lt (Nat.le_of_eq g139.symm))
  have g_b139 : n0 ≤ b139 := Nat.le_trans z137 (Nat.le_of_eq g139.symm)
  have sz_b139 : h0.size ≤ b139 := Nat.le_trans kp136.1 (Nat.le_of_eq g139.symm)
  have f140 := f133.ext E139
  have f141 := f134.ext E139
  have f142 := f135.ext E139
  have f143 := v132.ext E139
  have z144 := Nat.le_trans z137 E139.1
  have kp145 := kp136.ext E139
  have F_tasks_b139 : Fld Z h139 b139 "com/example/makespun/makespun/simulate/Timeline" "tasks" "[I" .null := D139 (Or.inl (hw _ (List.mem_of_getElem? (i := 15) rfl))) (ty := (.array .int)) (by decide)
  have F_starts_b139 : Fld Z h139 b139 "com/example/makespun/makespun/simulate/Timeline" "starts" "[D" .null := D139 (Or.inr (hw _ (List.mem_of_getElem? (i := 17) rfl))) (ty := (.array .double)) (by decide)
  have F_finishes_b139 : Fld Z h139 b139 "com/example/makespun/makespun/simulate/Timeline" "finishes" "[D" .null := D139 (Or.inr (hw _ (List.mem_of_getElem? (i := 19) rfl))) (ty := (.array .double)) (by decide)
  have F_size_b139 : Fld Z h139 b139 "com/example/makespun/makespun/simulate/Timeline" "size" "I" (.int (0 : Int32)) := D139 (Or.inl (hw _ (List.mem_of_getElem? (i := 26) rfl))) (ty := .int) (by decide)
  have F_idleIntervals_b139 : Fld Z h139 b139 "com/example/makespun/makespun/simulate/Timeline" "idleIntervals" "Ljava/util/NavigableMap;" .null := D139 (Or.inl (hw _ (List.mem_of_getElem? (i := 33) rfl))) (ty := (.object "java/util/NavigableMap")) (by decide)
  obtain ⟨_, _, ⟨T146, L146, k146, n146⟩, -, X146, ⟨Lc146, hQ146, l146, y146, z146⟩, st146⟩ := X139.specialBack hx (y := (⟨"com/example/makespun/makespun/simulate/Timeline", "<init>", "([D[D)V"⟩ : MethodName)) rfl hown (mvT hZ (hw _ (List.mem_of_getElem? (i := 8) rfl))) (mvT hZ (hw _ (List.mem_of_getElem? (i := 9) rfl))) (mvT hZ (hw _ (List.mem_of_getElem? (i := 10) rfl))) (by decide) (backOf (W := 1) (rmI l Z a0 hw [] b139 b34 b38 h139 n0 z144 A139 F_tasks_b139 F_starts_b139 F_finishes_b139 F_size_b139 F_idleIntervals_b139 g_b139) hZ (hw _ (List.mem_of_getElem? (i := 10) rfl)) (hw _ (List.mem_of_getElem? (i := 7) rfl)) (by decide) (by decide)) (g := (mkF m 269 #[.val (.int im), .val (.int ib), .val (.int i0), .val (.int i1), .val (.int i2), .val (.long ga), .second, .val (.int (im &&& (3 : Int32))), .val (.int (0 : Int32)), .val (.int (1 : Int32)), .val (.ref b1), .val (.long (ib.toInt64)), .second, .val (.long f0), .second, .val (.long s1), .second, .val (.long f1), .second, .val (.long s2), .second, .val (.long f2), .second, .val (.ref b34), .val (.ref b38), .val (.ref b43), .unset, .unset, .unset] [(.ref b38), (.ref b34), (.ref b139), (.ref b139)])) rfl (by rw [hml]; rfl) (Steps.refl _) (a := b139) (argsL := [(.ref b34), (.ref b38)]) (rest := [(.ref b139)]) (lenOf pd_0 rfl) rfl (by show 2 * 0 + _ ≤ _; exact Nat.le_of_eq rfl) (hb hby at_269) (fun _ _ => ⟨rfl, e139, (by decide : 5 + 1 ≤ _), (by decide : 17 + 4 ≤ _)⟩)
  dsimp only [Pt.U, Pt.locs, Pt.cells, Pt.slots] at X146 l146 y146 z146 st146 hQ146
  replace X146 := own_cast X146 l146 y146 z146
  obtain ⟨bt146, kb146, hv146, N146q, K146, gb146, Eo146, Ft146, Fs146, Ff146, Fi146, Vt146⟩ := hQ146
  rw [hv146] at st146
  have N146 := Fr.app N138 N146q
  have ne_b1_bt146 : b1 ≠ bt146 := Nat.ne_of_lt (Nat.lt_of_lt_of_le f140.lt gb146)
  have ne_b34_bt146 : b34 ≠ bt146 := Nat.ne_of_lt (Nat.lt_of_lt_of_le f141.lt gb146)
  have ne_b38_bt146 : b38 ≠ bt146 := Nat.ne_of_lt (Nat.lt_of_lt_of_le f142.lt gb146)
  have ne_b43_bt146 : b43 ≠ bt146 := Nat.ne_of_lt (Nat.lt_of_lt_of_le f143.lt gb146)
  have ne_b139_bt146 : b139 ≠ bt146 := Nat.ne_of_lt (Nat.lt_of_lt_of_le A139.lt gb146)
  have g_bt146 : n0 ≤ bt146 := Nat.le_trans z144 gb146
  have sz_bt146 : h0.size ≤ bt146 := Nat.le_trans kp145.1 gb146
  have f147 := f140.keep K146 (ninS ne_b1_b139 nin0)
  have f148 := f141.keep K146 (ninS ne_b34_b139 nin0)
  have f149 := f142.keep K146 (ninS ne_b38_b139 nin0)
  have f150 := f143.keep K146 (ninS ne_b43_b139 nin0)
  have f151 := A139.keep K146
  have z152 := Nat.le_trans z144 K146.1
  have kp153 := Keep.trans kp145 K146 (allS (Or.inr sz_b139) all0)
  have k154 : ∀ tq, Steps p.tables e below (T146.setTop (mkF m 274 #[.val (.int im), .val (.int ib), .val (.int i0), .val (.int i1), .val (.int i2), .val (.long ga), .second, .val (.int (im &&& (3 : Int32))), .val (.int (0 : Int32)), .val (.int (1 : Int32)), .val (.ref b1), .val (.long (ib.toInt64)), .second, .val (.long f0), .second, .val (.long s1), .second, .val (.long f1), .second, .val (.long s2), .second, .val (.long f2), .second, .val (.ref b34), .val (.ref b38), .val (.ref b43), .val (.ref b139), .unset, .unset] [])) tq → Steps p.tables e below (s₁.setTop (entryFrame m #[(.int im), (.int ib), (.int i0), (.int i1), (.int i2), (.long ga)] maxLocals)) tq := by
    intro tq kt
    refine k33 tq ?_
    show Steps p.tables e below (T17.setTop (mkF m 159 #[.val (.int im), .val (.int ib), .val (.int i0), .val (.int i1), .val (.int i2), .val (.long ga), .second, .val (.int (im &&& (3 : Int32))), .val (.int (0 : Int32)), .val (.int (1 : Int32)), .val (.ref b1), .val (.long (ib.toInt64)), .second, .val (.long f0), .second, .val (.long s1), .second, .val (.long f1), .second, .val (.long s2), .second, .val (.long f2), .second, .unset, .unset, .unset, .unset, .unset, .unset] [])) _
    refine XS.iconst X17.here hx rfl (hb hby at_159) ?_
    refine st34 _ ?_
    refine XS.astore X34.here hx rfl (hb hby at_162) rfl rfl (l' := #[.val (.int im), .val (.int ib), .val (.int i0), .val (.int i1), .val (.int i2), .val (.long ga), .second, .val (.int (im &&& (3 : Int32))), .val (.int (0 : Int32)), .val (.int (1 : Int32)), .val (.ref b1), .val (.long (ib.toInt64)), .second, .val (.long f0), .second, .val (.long s1), .second, .val (.long f1), .second, .val (.long s2), .second, .val (.long f2), .second, .val (.ref b34), .unset, .unset, .unset, .unset, .unset]) rfl ?_
    refine XS.iconst X34.here hx rfl (hb hby at_164) ?_
    refine st38 _ ?_
    refine XS.astore X38.here hx rfl (hb hby at_167) rfl rfl (l' := #[.val (.int im), .val (.int ib), .val (.int i0), .val (.int i1), .val (.int i2), .val (.long ga), .second, .val (.int (im &&& (3 : Int32))), .val (.int (0 : Int32)), .val (.int (1 : Int32)), .val (.ref b1), .val (.long (ib.toInt64)), .second, .val (.long f0), .second, .val (.long s1), .second, .val (.long f1), .second, .val (.long s2), .second, .val (.long f2), .second, .val (.ref b34), .val (.ref b38), .unset, .unset, .unset, .unset]) rfl ?_
    show Steps p.tables e below (T38.setTop (mkF m 169 #[.val (.int im), .val (.int ib), .val (.int i0), .val (.int i1), .val (.int i2), .val (.long ga), .second, .val (.int (im &&& (3 : Int32))), .val (.int (0 : Int32)), .val (.int (1 : Int32)), .val (.ref b1), .val (.long (ib.toInt64)), .second, .val (.long f0), .second, .val (.long s1), .second, .val (.long f1), .second, .val (.long s2), .second, .val (.long f2), .second, .val (.ref b34), .val (.ref b38), .unset, .unset, .unset, .unset] [])) _
    refine XS.iconst X38.here hx rfl (hb hby at_169) ?_
    refine st43 _ ?_
    refine XS.astore X43.here hx rfl (hb hby at_172) rfl rfl (l' := #[.val (.int im), .val (.int ib), .val (.int i0), .val (.int i1), .val (.int i2), .val (.long ga), .second, .val (.int (im &&& (3 : Int32))), .val (.int (0 : Int32)), .val (.int (1 : Int32)), .val (.ref b1), .val (.long (ib.toInt64)), .second, .val (.long f0), .second, .val (.long s1), .second, .val (.long f1), .second, .val (.long s2), .second, .val (.long f2), .second, .val (.ref b34), .val (.ref b38), .val (.ref b43), .unset, .unset, .unset]) rfl ?_
    refine XS.aload X43.here hx rfl (hb hby at_174) rfl rfl ?_
    refine XS.aload X43.here hx rfl (hb hby at_176) rfl rfl ?_
    refine XS.iconst X43.here hx rfl (hb hby at_178) ?_
    show Steps p.tables e below (T43.setTop (mkF m 179 #[.val (.int im), .val (.int ib), .val (.int i0), .val (.int i1), .val (.int i2), .val (.long ga), .second, .val (.int (im &&& (3 : Int32))), .val (.int (0 : Int32)), .val (.int (1 : Int32)), .val (.ref b1), .val (.long (ib.toInt64)), .second, .val (.long f0), .second, .val (.long s1), .second, .val (.long f1), .second, .val (.long s2), .second, .val (.long f2), .second, .val (.ref b34), .val (.ref b38), .val (.ref b43), .unset, .unset, .unset] [(.int (0 : Int32)), (.ref b1), (.ref b34)])) _
    refine X43.iaload hx (j := (0 : Int32)) (v := (.int (1 : Int32))) (by rw [e43]; exact Arq49.1) (State.isArrayOf_alike hZ.alike Arq49.2.1) Arq49.2.2 hiq49 haq49 (g := (mkF m 179 #[.val (.int im), .val (.int ib), .val (.int i0), .val (.int i1), .val (.int i2), .val (.long ga), .second, .val (.int (im &&& (3 : Int32))), .val (.int (0 : Int32)), .val (.int (1 : Int32)), .val (.ref b1), .val (.long (ib.toInt64)), .second, .val (.long f0), .second, .val (.long s1), .second, .val (.long f1), .second, .val (.long s2), .second, .val (.long f2), .second, .val (.ref b34), .val (.ref b38), .val (.ref b43), .unset, .unset, .unset] [(.int (0 : Int32)), (.ref b1), (.ref b34)])) rfl rfl (hb hby at_179) _ ?_
    refine XS.lload X43.here hx rfl (hb hby at_180) rfl ?_
    show Steps p.tables e below (T43.setTop (mkF m 182 #[.val (.int im), .val (.int ib), .val (.int i0), .val (.int i1), .val (.int i2), .val (.long ga), .second, .val (.int (im &&& (3 : Int32))), .val (.int (0 : Int32)), .val (.int (1 : Int32)), .val (.ref b1), .val (.long (ib.toInt64)), .second, .val (.long f0), .second, .val (.long s1), .second, .val (.long f1), .second, .val (.long s2), .second, .val (.long f2), .second, .val (.ref b34), .val (.ref b38), .val (.ref b43), .unset, .unset, .unset] [(.long (ib.toInt64)), (.int (1 : Int32)), (.ref b34)])) _
    refine XS.l2dS X43.here hx rfl (hb hby at_182) rfl rfl ?_
    refine st51 _ ?_
    refine XS.aload X51.here hx rfl (hb hby at_184) rfl rfl ?_
    refine XS.aload X51.here hx rfl (hb hby at_186) rfl rfl ?_
    show Steps p.tables e below (T51.setTop (mkF m 188 #[.val (.int im), .val (.int ib), .val (.int i0), .val (.int i1), .val (.int i2), .val (.long ga), .second, .val (.int (im &&& (3 : Int32))), .val (.int (0 : Int32)), .val (.int (1 : Int32)), .val (.ref b1), .val (.long (ib.toInt64)), .second, .val (.long f0), .second, .val (.long s1), .second, .val (.long f1), .second, .val (.long s2), .second, .val (.long f2), .second, .val (.ref b34), .val (.ref b38), .val (.ref b43), .unset, .unset, .unset] [(.ref b1), (.ref b38)])) _
    refine XS.iconst X51.here hx rfl (hb hby at_188) ?_
    refine X51.iaload hx (j := (0 : Int32)) (v := (.int (1 : Int32))) (by rw [e51]; exact Arq59.1) (State.isArrayOf_alike hZ.alike Arq59.2.1) Arq59.2.2 hiq59 haq59 (g := (mkF m 189 #[.val (.int im), .val (.int ib), .val (.int i0), .val (.int i1), .val (.int i2), .val (.long ga), .second, .val (.int (im &&& (3 : Int32))), .val (.int (0 : Int32)), .val (.int (1 : Int32)), .val (.ref b1), .val (.long (ib.toInt64)), .second, .val (.long f0), .second, .val (.long s1), .second, .val (.long f1), .second, .val (.long s2), .second, .val (.long f2), .second, .val (.ref b34), .val (.ref b38), .val (.ref b43), .unset, .unset, .unset] [(.int (0 : Int32)), (.ref b1), (.ref b38)])) rfl rfl (hb hby at_189) _ ?_
    refine XS.lload X51.here hx rfl (hb hby at_190) rfl ?_
    show Steps p.tables e below (T51.setTop (mkF m 192 #[.val (.int im), .val (.int ib), .val (.int i0), .val (.int i1), .val (.int i2), .val (.long ga), .second, .val (.int (im &&& (3 : Int32))), .val (.int (0 : Int32)), .val (.int (1 : Int32)), .val (.ref b1), .val (.long (ib.toInt64)), .second, .val (.long f0), .second, .val (.long s1), .second, .val (.long f1), .second, .val (.long s2), .second, .val (.long f2), .second, .val (.ref b34), .val (.ref b38), .val (.ref b43), .unset, .unset, .unset] [(.long f0), (.int (1 : Int32)), (.ref b38)])) _
    refine XS.l2dS X51.here hx rfl (hb hby at_192) rfl rfl ?_
    refine st61 _ ?_
    refine XS.aload X61.here hx rfl (hb hby at_194) rfl rfl ?_
    show Steps p.tables e below (T61.setTop (mkF m 196 #[.val (.int im), .val (.int ib), .val (.int i0), .val (.int i1), .val (.int i2), .val (.long ga), .second, .val (.int (im &&& (3 : Int32))), .val (.int (0 : Int32)), .val (.int (1 : Int32)), .val (.ref b1), .val (.long (ib.toInt64)), .second, .val (.long f0), .second, .val (.long s1), .second, .val (.long f1), .second, .val (.long s2), .second, .val (.long f2), .second, .val (.ref b34), .val (.ref b38), .val (.ref b43), .unset, .unset, .unset] [(.ref b43)])) _
    refine XS.aload X61.here hx rfl (hb hby at_196) rfl rfl ?_
    refine XS.iconst X61.here hx rfl (hb hby at_198) ?_
    refine X61.iaload hx (j := (0 : Int32)) (v := (.int (1 : Int32))) (by rw [e61]; exact Arq69.1) (State.isArrayOf_alike hZ.alike Arq69.2.1) Arq69.2.2 hiq69 haq69 (g := (mkF m 199 #[.val (.int im), .val (.int ib), .val (.int i0), .val (.int i1), .val (.int i2), .val (.long ga), .second, .val (.int (im &&& (3 : Int32))), .val (.int (0 : Int32)), .val (.int (1 : Int32)), .val (.ref b1), .val (.long (ib.toInt64)), .second, .val (.long f0), .second, .val (.long s1), .second, .val (.long f1), .second, .val (.long s2), .second, .val (.long f2), .second, .val (.ref b34), .val (.ref b38), .val (.ref b43), .unset, .unset, .unset] [(.int (0 : Int32)), (.ref b1), (.ref b43)])) rfl rfl (hb hby at_199) _ ?_
    refine XS.lload X61.here hx rfl (hb hby at_200) rfl ?_
    refine st71 _ ?_
    refine XS.aload X71.here hx rfl (hb hby at_203) rfl rfl ?_
    show Steps p.tables e below (T71.setTop (mkF m 205 #[.val (.int im), .val (.int ib), .val (.int i0), .val (.int i1), .val (.int i2), .val (.long ga), .second, .val (.int (im &&& (3 : Int32))), .val (.int (0 : Int32)), .val (.int (1 : Int32)), .val (.ref b1), .val (.long (ib.toInt64)), .second, .val (.long f0), .second, .val (.long s1), .second, .val (.long f1), .second, .val (.long s2), .second, .val (.long f2), .second, .val (.ref b34), .val (.ref b38), .val (.ref b43), .unset, .unset, .unset] [(.ref b34)])) _
    refine XS.aload X71.here hx rfl (hb hby at_205) rfl rfl ?_
    refine XS.iconst X71.here hx rfl (hb hby at_207) ?_
    refine X71.iaload hx (j := (1 : Int32)) (v := (.int (0 : Int32))) (by rw [e71]; exact Arq79.1) (State.isArrayOf_alike hZ.alike Arq79.2.1) Arq79.2.2 hiq79 haq79 (g := (mkF m 208 #[.val (.int im), .val (.int ib), .val (.int i0), .val (.int i1), .val (.int i2), .val (.long ga), .second, .val (.int (im &&& (3 : Int32))), .val (.int (0 : Int32)), .val (.int (1 : Int32)), .val (.ref b1), .val (.long (ib.toInt64)), .second, .val (.long f0), .second, .val (.long s1), .second, .val (.long f1), .second, .val (.long s2), .second, .val (.long f2), .second, .val (.ref b34), .val (.ref b38), .val (.ref b43), .unset, .unset, .unset] [(.int (1 : Int32)), (.ref b1), (.ref b34)])) rfl rfl (hb hby at_208) _ ?_
    refine XS.lload X71.here hx rfl (hb hby at_209) rfl ?_
    show Steps p.tables e below (T71.setTop (mkF m 211 #[.val (.int im), .val (.int ib), .val (.int i0), .val (.int i1), .val (.int i2), .val (.long ga), .second, .val (.int (im &&& (3 : Int32))), .val (.int (0 : Int32)), .val (.int (1 : Int32)), .val (.ref b1), .val (.long (ib.toInt64)), .second, .val (.long f0), .second, .val (.long s1), .second, .val (.long f1), .second, .val (.long s2), .second, .val (.long f2), .second, .val (.ref b34), .val (.ref b38), .val (.ref b43), .unset, .unset, .unset] [(.long s1), (.int (0 : Int32)), (.ref b34)])) _
    refine XS.l2dS X71.here hx rfl (hb hby at_211) rfl rfl ?_
    refine st81 _ ?_
    show Steps p.tables e below (T81.setTop (mkF m 213 #[.val (.int im), .val (.int ib), .val (.int i0), .val (.int i1), .val (.int i2), .val (.long ga), .second, .val (.int (im &&& (3 : Int32))), .val (.int (0 : Int32)), .val (.int (1 : Int32)), .val (.ref b1), .val (.long (ib.toInt64)), .second, .val (.long f0), .second, .val (.long s1), .second, .val (.long f1), .second, .val (.long s2), .second, .val (.long f2), .second, .val (.ref b34), .val (.ref b38), .val (.ref b43), .unset, .unset, .unset] [])) _
    refine XS.aload X81.here hx rfl (hb hby at_213) rfl rfl ?_
    refine XS.aload X81.here hx rfl (hb hby at_215) rfl rfl ?_
    refine XS.iconst X81.here hx rfl (hb hby at_217) ?_
    refine X81.iaload hx (j := (1 : Int32)) (v := (.int (0 : Int32))) (by rw [e81]; exact Arq89.1) (State.isArrayOf_alike hZ.alike Arq89.2.1) Arq89.2.2 hiq89 haq89 (g := (mkF m 218 #[.val (.int im), .val (.int ib), .val (.int i0), .val (.int i1), .val (.int i2), .val (.long ga), .second, .val (.int (im &&& (3 : Int32))), .val (.int (0 : Int32)), .val (.int (1 : Int32)), .val (.ref b1), .val (.long (ib.toInt64)), .second, .val (.long f0), .second, .val (.long s1), .second, .val (.long f1), .second, .val (.long s2), .second, .val (.long f2), .second, .val (.ref b34), .val (.ref b38), .val (.ref b43), .unset, .unset, .unset] [(.int (1 : Int32)), (.ref b1), (.ref b38)])) rfl rfl (hb hby at_218) _ ?_
    refine XS.lload X81.here hx rfl (hb hby at_219) rfl ?_
    show Steps p.tables e below (T81.setTop (mkF m 221 #[.val (.int im), .val (.int ib), .val (.int i0), .val (.int i1), .val (.int i2), .val (.long ga), .second, .val (.int (im &&& (3 : Int32))), .val (.int (0 : Int32)), .val (.int (1 : Int32)), .val (.ref b1), .val (.long (ib.toInt64)), .second, .val (.long f0), .second, .val (.long s1), .second, .val (.long f1), .second, .val (.long s2), .second, .val (.long f2), .second, .val (.ref b34), .val (.ref b38), .val (.ref b43), .unset, .unset, .unset] [(.long f1), (.int (0 : Int32)), (.ref b38)])) _
    refine XS.l2dS X81.here hx rfl (hb hby at_221) rfl rfl ?_
    show Steps p.tables e below (T81.setTop (mkF m 222 #[.val (.int im), .val (.int ib), .val (.int i0), .val (.int i1), .val (.int i2), .val (.long ga), .second, .val (.int (im &&& (3 : Int32))), .val (.int (0 : Int32)), .val (.int (1 : Int32)), .val (.ref b1), .val (.long (ib.toInt64)), .second, .val (.long f0), .second, .val (.long s1), .second, .val (.long f1), .second, .val (.long s2), .second, .val (.long f2), .second, .val (.ref b34), .val (.ref b38), .val (.ref b43), .unset, .unset, .unset] [(.double (FP.l2d f1)), (.int (0 : Int32)), (.ref b38)])) _
    refine st91 _ ?_
    refine XS.aload X91.here hx rfl (hb hby at_223) rfl rfl ?_
    refine XS.aload X91.here hx rfl (hb hby at_225) rfl rfl ?_
    refine XS.iconst X91.here hx rfl (hb hby at_227) ?_
    refine X91.iaload hx (j := (1 : Int32)) (v := (.int (0 : Int32))) (by rw [e91]; exact Arq99.1) (State.isArrayOf_alike hZ.alike Arq99.2.1) Arq99.2.2 hiq99 haq99 (g := (mkF m 228 #[.val (.int im), .val (.int ib), .val (.int i0), .val (.int i1), .val (.int i2), .val (.long ga), .second, .val (.int (im &&& (3 : Int32))), .val (.int (0 : Int32)), .val (.int (1 : Int32)), .val (.ref b1), .val (.long (ib.toInt64)), .second, .val (.long f0), .second, .val (.long s1), .second, .val (.long f1), .second, .val (.long s2), .second, .val (.long f2), .second, .val (.ref b34), .val (.ref b38), .val (.ref b43), .unset, .unset, .unset] [(.int (1 : Int32)), (.ref b1), (.ref b43)])) rfl rfl (hb hby at_228) _ ?_
    refine XS.lload X91.here hx rfl (hb hby at_229) rfl ?_
    show Steps p.tables e below (T91.setTop (mkF m 231 #[.val (.int im), .val (.int ib), .val (.int i0), .val (.int i1), .val (.int i2), .val (.long ga), .second, .val (.int (im &&& (3 : Int32))), .val (.int (0 : Int32)), .val (.int (1 : Int32)), .val (.ref b1), .val (.long (ib.toInt64)), .second, .val (.long f0), .second, .val (.long s1), .second, .val (.long f1), .second, .val (.long s2), .second, .val (.long f2), .second, .val (.ref b34), .val (.ref b38), .val (.ref b43), .unset, .unset, .unset] [(.long f1), (.int (0 : Int32)), (.ref b43)])) _
    refine st101 _ ?_
    refine XS.aload X101.here hx rfl (hb hby at_232) rfl rfl ?_
    refine XS.aload X101.here hx rfl (hb hby at_234) rfl rfl ?_
    refine XS.iconst X101.here hx rfl (hb hby at_236) ?_
    refine X101.iaload hx (j := (2 : Int32)) (v := (.int (2 : Int32))) (by rw [e101]; exact Arq109.1) (State.isArrayOf_alike hZ.alike Arq109.2.1) Arq109.2.2 hiq109 haq109 (g := (mkF m 237 #[.val (.int im), .val (.int ib), .val (.int i0), .val (.int i1), .val (.int i2), .val (.long ga), .second, .val (.int (im &&& (3 : Int32))), .val (.int (0 : Int32)), .val (.int (1 : Int32)), .val (.ref b1), .val (.long (ib.toInt64)), .second, .val (.long f0), .second, .val (.long s1), .second, .val (.long f1), .second, .val (.long s2), .second, .val (.long f2), .second, .val (.ref b34), .val (.ref b38), .val (.ref b43), .unset, .unset, .unset] [(.int (2 : Int32)), (.ref b1), (.ref b34)])) rfl rfl (hb hby at_237) _ ?_
    refine XS.lload X101.here hx rfl (hb hby at_238) rfl ?_
    show Steps p.tables e below (T101.setTop (mkF m 240 #[.val (.int im), .val (.int ib), .val (.int i0), .val (.int i1), .val (.int i2), .val (.long ga), .second, .val (.int (im &&& (3 : Int32))), .val (.int (0 : Int32)), .val (.int (1 : Int32)), .val (.ref b1), .val (.long (ib.toInt64)), .second, .val (.long f0), .second, .val (.long s1), .second, .val (.long f1), .second, .val (.long s2), .second, .val (.long f2), .second, .val (.ref b34), .val (.ref b38), .val (.ref b43), .unset, .unset, .unset] [(.long s2), (.int (2 : Int32)), (.ref b34)])) _
    refine XS.l2dS X101.here hx rfl (hb hby at_240) rfl rfl ?_
    refine st111 _ ?_
    refine XS.aload X111.here hx rfl (hb hby at_242) rfl rfl ?_
    refine XS.aload X111.here hx rfl (hb hby at_244) rfl rfl ?_
    refine XS.iconst X111.here hx rfl (hb hby at_246) ?_
    refine X111.iaload hx (j := (2 : Int32)) (v := (.int (2 : Int32))) (by rw [e111]; exact Arq119.1) (State.isArrayOf_alike hZ.alike Arq119.2.1) Arq119.2.2 hiq119 haq119 (g := (mkF m 247 #[.val (.int im), .val (.int ib), .val (.int i0), .val (.int i1), .val (.int i2), .val (.long ga), .second, .val (.int (im &&& (3 : Int32))), .val (.int (0 : Int32)), .val (.int (1 : Int32)), .val (.ref b1), .val (.long (ib.toInt64)), .second, .val (.long f0), .second, .val (.long s1), .second, .val (.long f1), .second, .val (.long s2), .second, .val (.long f2), .second, .val (.ref b34), .val (.ref b38), .val (.ref b43), .unset, .unset, .unset] [(.int (2 : Int32)), (.ref b1), (.ref b38)])) rfl rfl (hb hby at_247) _ ?_
    show Steps p.tables e below (T111.setTop (mkF m 248 #[.val (.int im), .val (.int ib), .val (.int i0), .val (.int i1), .val (.int i2), .val (.long ga), .second, .val (.int (im &&& (3 : Int32))), .val (.int (0 : Int32)), .val (.int (1 : Int32)), .val (.ref b1), .val (.long (ib.toInt64)), .second, .val (.long f0), .second, .val (.long s1), .second, .val (.long f1), .second, .val (.long s2), .second, .val (.long f2), .second, .val (.ref b34), .val (.ref b38), .val (.ref b43), .unset, .unset, .unset] [(.int (2 : Int32)), (.ref b38)])) _
    refine XS.lload X111.here hx rfl (hb hby at_248) rfl ?_
    show Steps p.tables e below (T111.setTop (mkF m 250 #[.val (.int im), .val (.int ib), .val (.int i0), .val (.int i1), .val (.int i2), .val (.long ga), .second, .val (.int (im &&& (3 : Int32))), .val (.int (0 : Int32)), .val (.int (1 : Int32)), .val (.ref b1), .val (.long (ib.toInt64)), .second, .val (.long f0), .second, .val (.long s1), .second, .val (.long f1), .second, .val (.long s2), .second, .val (.long f2), .second, .val (.ref b34), .val (.ref b38), .val (.ref b43), .unset, .unset, .unset] [(.long f2), (.int (2 : Int32)), (.ref b38)])) _
    refine XS.l2dS X111.here hx rfl (hb hby at_250) rfl rfl ?_
    refine st121 _ ?_
    refine XS.aload X121.here hx rfl (hb hby at_252) rfl rfl ?_
    refine XS.aload X121.here hx rfl (hb hby at_254) rfl rfl ?_
    refine XS.iconst X121.here hx rfl (hb hby at_256) ?_
    show Steps p.tables e below (T121.setTop (mkF m 257 #[.val (.int im), .val (.int ib), .val (.int i0), .val (.int i1), .val (.int i2), .val (.long ga), .second, .val (.int (im &&& (3 : Int32))), .val (.int (0 : Int32)), .val (.int (1 : Int32)), .val (.ref b1), .val (.long (ib.toInt64)), .second, .val (.long f0), .second, .val (.long s1), .second, .val (.long f1), .second, .val (.long s2), .second, .val (.long f2), .second, .val (.ref b34), .val (.ref b38), .val (.ref b43), .unset, .unset, .unset] [(.int (2 : Int32)), (.ref b1), (.ref b43)])) _
    refine X121.iaload hx (j := (2 : Int32)) (v := (.int (2 : Int32))) (by rw [e121]; exact Arq129.1) (State.isArrayOf_alike hZ.alike Arq129.2.1) Arq129.2.2 hiq129 haq129 (g := (mkF m 257 #[.val (.int im), .val (.int ib), .val (.int i0), .val (.int i1), .val (.int i2), .val (.long ga), .second, .val (.int (im &&& (3 : Int32))), .val (.int (0 : Int32)), .val (.int (1 : Int32)), .val (.ref b1), .val (.long (ib.toInt64)), .second, .val (.long f0), .second, .val (.long s1), .second, .val (.long f1), .second, .val (.long s2), .second, .val (.long f2), .second, .val (.ref b34), .val (.ref b38), .val (.ref b43), .unset, .unset, .unset] [(.int (2 : Int32)), (.ref b1), (.ref b43)])) rfl rfl (hb hby at_257) _ ?_
    refine XS.lload X121.here hx rfl (hb hby at_258) rfl ?_
    refine st131 _ ?_
    refine st139 _ ?_
    refine XS.dup X139.here hx rfl (hb hby at_264) rfl rfl ?_
    refine XS.aload X139.here hx rfl (hb hby at_265) rfl rfl ?_
    show Steps p.tables e below (T139.setTop (mkF m 267 #[.val (.int im), .val (.int ib), .val (.int i0), .val (.int i1), .val (.int i2), .val (.long ga), .second, .val (.int (im &&& (3 : Int32))), .val (.int (0 : Int32)), .val (.int (1 : Int32)), .val (.ref b1), .val (.long (ib.toInt64)), .second, .val (.long f0), .second, .val (.long s1), .second, .val (.long f1), .second, .val (.long s2), .second, .val (.long f2), .second, .val (.ref b34), .val (.ref b38), .val (.ref b43), .unset, .unset, .unset] [(.ref b34), (.ref b139), (.ref b139)])) _
    refine XS.aload X139.here hx rfl (hb hby at_267) rfl rfl ?_
    refine st146.trans ?_
    refine XS.astore X146.here hx rfl (hb hby at_272) rfl rfl (l' := #[.val (.int im), .val (.int ib), .val (.int i0), .val (.int i1), .val (.int i2), .val (.long ga), .second, .val (.int (im &&& (3 : Int32))), .val (.int (0 : Int32)), .val (.int (1 : Int32)), .val (.ref b1), .val (.long (ib.toInt64)), .second, .val (.long f0), .second, .val (.long s1), .second, .val (.long f1), .second, .val (.long s2), .second, .val (.long f2), .second, .val (.ref b34), .val (.ref b38), .val (.ref b43), .val (.ref b139), .unset, .unset]) rfl ?_
    exact kt
  rcases own_n4 im with hn | hn | hn | hn
  · have k155 : ∀ tq, Steps p.tables e below (T146.setTop (mkF m 274 #[.val (.int im), .val (.int ib), .val (.int i0), .val (.int i1), .val (.int i2), .val (.long ga), .second, .val (.int (0 : Int32)), .val (.int (0 : Int32)), .val (.int (1 : Int32)), .val (.ref b1), .val (.long (ib.toInt64)), .second, .val (.long f0), .second, .val (.long s1), .second, .val (.long f1), .second, .val (.long s2), .second, .val (.long f2), .second, .val (.ref b34), .val (.ref b38), .val (.ref b43), .val (.ref b139), .unset, .unset] [])) tq → Steps p.tables e below (s₁.setTop (entryFrame m #[(.int im), (.int ib), (.int i0), (.int i1), (.int i2), (.long ga)] maxLocals)) tq := by
      intro tq kt
      refine k154 tq ?_
      rw [hn]
      exact kt
    obtain ⟨cq156, kq156, q156a, q156b, q156c⟩ := isOf hZ rfl Eo146
    obtain ⟨_, _, ⟨T156, L156, k156, n156⟩, -, X156, ⟨Lc156, hQ156, l156, y156, z156⟩, st156⟩ := X146.virtualBack hx (y := (⟨"com/example/makespun/makespun/simulate/Timeline", "freeAt", "()D"⟩ : MethodName)) (z := (⟨"com/example/makespun/makespun/simulate/Timeline", "freeAt", "()D"⟩ : MethodName)) hown (mvT hZ (hw _ (List.mem_of_getElem? (i := 20) rfl))) (mvT hZ (hw _ (List.mem_of_getElem? (i := 21) rfl))) (notFace_of_selects (args := #[]) (mvT hZ (hw _ (List.mem_of_getElem? (i := 23) rfl)))) (mvT hZ (hw _ (List.mem_of_getElem? (i := 23) rfl))) (mvT hZ (hw _ (List.mem_of_getElem? (i := 22) rfl))) (by decide) (backOf (W := 0) (rmF0 l Z a0 hw [] b139 T146.heap n0 z152 Fs146) hZ (hw _ (List.mem_of_getElem? (i := 24) rfl)) (hw _ (List.mem_of_getElem? (i := 7) rfl)) (by decide) (by decide)) q156a q156c (g := (mkF m 382 #[.val (.int im), .val (.int ib), .val (.int i0), .val (.int i1), .val (.int i2), .val (.long ga), .second, .val (.int (0 : Int32)), .val (.int (0 : Int32)), .val (.int (1 : Int32)), .val (.ref b1), .val (.long (ib.toInt64)), .second, .val (.long f0), .second, .val (.long s1), .second, .val (.long f1), .second, .val (.long s2), .second, .val (.long f2), .second, .val (.ref b34), .val (.ref b38), .val (.ref b43), .val (.ref b139), .val (.long (0 : Int64)), .second] [(.ref b139)])) rfl (by rw [hml]; rfl) (Steps.refl _) (argsL := []) (rest := []) (lenOf pd_2 rfl) rfl (by show 2 * 0 + _ ≤ _; exact Nat.le_of_eq rfl) (hb hby at_382) (fun _ _ => ⟨rfl, rfl, (by decide : 6 + 0 ≤ _), (by decide : 21 + 0 ≤ _)⟩)
    dsimp only [Pt.U, Pt.locs, Pt.cells, Pt.slots] at X156 l156 y156 z156 st156 hQ156
    replace X156 := own_cast X156 l156 y156 z156
    obtain ⟨hv156, N156q, e156⟩ := hQ156
    rw [hv156] at st156
    have N156 := Fr.app N146 N156q
    obtain ⟨fs, hr, hrun, hended, hW, hsame⟩ := X156.leave (v := some (.int (1 : Int32))) (fun h => by rw [Bd.returns] at h; cases h)
    refine ⟨_, _, k155 _ ?_, hrun, hended, _, _, rfl, ?_, ⟨_, rfl⟩, hW, hsame.mono (by decide) (by decide)⟩
    · refine XS.iload X146.here hx rfl (hb hby at_274) rfl ?_
      refine XS.iconst X146.here hx rfl (hb hby at_276) ?_
      show Steps p.tables e below (T146.setTop (mkF m 277 #[.val (.int im), .val (.int ib), .val (.int i0), .val (.int i1), .val (.int i2), .val (.long ga), .second, .val (.int (0 : Int32)), .val (.int (0 : Int32)), .val (.int (1 : Int32)), .val (.ref b1), .val (.long (ib.toInt64)), .second, .val (.long f0), .second, .val (.long s1), .second, .val (.long f1), .second, .val (.long s2), .second, .val (.long f2), .second, .val (.ref b34), .val (.ref b38), .val (.ref b43), .val (.ref b139), .unset, .unset] [(.int (1 : Int32)), (.int (0 : Int32))])) _
      refine XS.icmpYes X146.here hx rfl (pc0 := 277) (pc' := 287) rfl (hb hby at_277) rfl (tlt (by decide : ((0 : Int32) < (1 : Int32)))).1 (by decide) (by decide) ?_
      refine XS.iload X146.here hx rfl (hb hby at_287) rfl ?_
      show Steps p.tables e below (T146.setTop (mkF m 289 #[.val (.int im), .val (.int ib), .val (.int i0), .val (.int i1), .val (.int i2), .val (.long ga), .second, .val (.int (0 : Int32)), .val (.int (0 : Int32)), .val (.int (1 : Int32)), .val (.ref b1), .val (.long (ib.toInt64)), .second, .val (.long f0), .second, .val (.long s1), .second, .val (.long f1), .second, .val (.long s2), .second, .val (.long f2), .second, .val (.ref b34), .val (.ref b38), .val (.ref b43), .val (.ref b139), .unset, .unset] [(.int (0 : Int32))])) _
      refine XS.iconst X146.here hx rfl (hb hby at_289) ?_
      show Steps p.tables e below (T146.setTop (mkF m 290 #[.val (.int im), .val (.int ib), .val (.int i0), .val (.int i1), .val (.int i2), .val (.long ga), .second, .val (.int (0 : Int32)), .val (.int (0 : Int32)), .val (.int (1 : Int32)), .val (.ref b1), .val (.long (ib.toInt64)), .second, .val (.long f0), .second, .val (.long s1), .second, .val (.long f1), .second, .val (.long s2), .second, .val (.long f2), .second, .val (.ref b34), .val (.ref b38), .val (.ref b43), .val (.ref b139), .unset, .unset] [(.int (2 : Int32)), (.int (0 : Int32))])) _
      refine XS.icmpYes X146.here hx rfl (pc0 := 290) (pc' := 309) rfl (hb hby at_290) rfl (tlt (by decide : ((0 : Int32) < (2 : Int32)))).1 (by decide) (by decide) ?_
      refine XS.iload X146.here hx rfl (hb hby at_309) rfl ?_
      refine XS.iconst X146.here hx rfl (hb hby at_311) ?_
      show Steps p.tables e below (T146.setTop (mkF m 312 #[.val (.int im), .val (.int ib), .val (.int i0), .val (.int i1), .val (.int i2), .val (.long ga), .second, .val (.int (0 : Int32)), .val (.int (0 : Int32)), .val (.int (1 : Int32)), .val (.ref b1), .val (.long (ib.toInt64)), .second, .val (.long f0), .second, .val (.long s1), .second, .val (.long f1), .second, .val (.long s2), .second, .val (.long f2), .second, .val (.ref b34), .val (.ref b38), .val (.ref b43), .val (.ref b139), .unset, .unset] [(.int (3 : Int32)), (.int (0 : Int32))])) _
      refine XS.icmpYes X146.here hx rfl (pc0 := 312) (pc' := 331) rfl (hb hby at_312) rfl (feq (by decide : ¬ ((0 : Int32) = (3 : Int32)))).2 (by decide) (by decide) ?_
      refine XS.lconst X146.here hx rfl (hb hby at_331) ?_
      refine XS.lstore X146.here hx rfl (hb hby at_332) rfl (l' := #[.val (.int im), .val (.int ib), .val (.int i0), .val (.int i1), .val (.int i2), .val (.long ga), .second, .val (.int (0 : Int32)), .val (.int (0 : Int32)), .val (.int (1 : Int32)), .val (.ref b1), .val (.long (ib.toInt64)), .second, .val (.long f0), .second, .val (.long s1), .second, .val (.long f1), .second, .val (.long s2), .second, .val (.long f2), .second, .val (.ref b34), .val (.ref b38), .val (.ref b43), .val (.ref b139), .val (.long (0 : Int64)), .second]) rfl ?_
      refine XS.iload X146.here hx rfl (hb hby at_334) rfl ?_
      show Steps p.tables e below (T146.setTop (mkF m 336 #[.val (.int im), .val (.int ib), .val (.int i0), .val (.int i1), .val (.int i2), .val (.long ga), .second, .val (.int (0 : Int32)), .val (.int (0 : Int32)), .val (.int (1 : Int32)), .val (.ref b1), .val (.long (ib.toInt64)), .second, .val (.long f0), .second, .val (.long s1), .second, .val (.long f1), .second, .val (.long s2), .second, .val (.long f2), .second, .val (.ref b34), .val (.ref b38), .val (.ref b43), .val (.ref b139), .val (.long (0 : Int64)), .second] [(.int (0 : Int32))])) _
      refine XS.iconst X146.here hx rfl (hb hby at_336) ?_
      show Steps p.tables e below (T146.setTop (mkF m 337 #[.val (.int im), .val (.int ib), .val (.int i0), .val (.int i1), .val (.int i2), .val (.long ga), .second, .val (.int (0 : Int32)), .val (.int (0 : Int32)), .val (.int (1 : Int32)), .val (.ref b1), .val (.long (ib.toInt64)), .second, .val (.long f0), .second, .val (.long s1), .second, .val (.long f1), .second, .val (.long s2), .second, .val (.long f2), .second, .val (.ref b34), .val (.ref b38), .val (.ref b43), .val (.ref b139), .val (.long (0 : Int64)), .second] [(.int (1 : Int32)), (.int (0 : Int32))])) _
      refine XS.icmpYes X146.here hx rfl (pc0 := 337) (pc' := 346) rfl (hb hby at_337) rfl (tlt (by decide : ((0 : Int32) < (1 : Int32)))).1 (by decide) (by decide) ?_
      refine XS.iload X146.here hx rfl (hb hby at_346) rfl ?_
      refine XS.iconst X146.here hx rfl (hb hby at_348) ?_
      show Steps p.tables e below (T146.setTop (mkF m 349 #[.val (.int im), .val (.int ib), .val (.int i0), .val (.int i1), .val (.int i2), .val (.long ga), .second, .val (.int (0 : Int32)), .val (.int (0 : Int32)), .val (.int (1 : Int32)), .val (.ref b1), .val (.long (ib.toInt64)), .second, .val (.long f0), .second, .val (.long s1), .second, .val (.long f1), .second, .val (.long s2), .second, .val (.long f2), .second, .val (.ref b34), .val (.ref b38), .val (.ref b43), .val (.ref b139), .val (.long (0 : Int64)), .second] [(.int (2 : Int32)), (.int (0 : Int32))])) _
      refine XS.icmpYes X146.here hx rfl (pc0 := 349) (pc' := 363) rfl (hb hby at_349) rfl (tlt (by decide : ((0 : Int32) < (2 : Int32)))).1 (by decide) (by decide) ?_
      refine XS.iload X146.here hx rfl (hb hby at_363) rfl ?_
      refine XS.iconst X146.here hx rfl (hb hby at_365) ?_
      show Steps p.tables e below (T146.setTop (mkF m 366 #[.val (.int im), .val (.int ib), .val (.int i0), .val (.int i1), .val (.int i2), .val (.long ga), .second, .val (.int (0 : Int32)), .val (.int (0 : Int32)), .val (.int (1 : Int32)), .val (.ref b1), .val (.long (ib.toInt64)), .second, .val (.long f0), .second, .val (.long s1), .second, .val (.long f1), .second, .val (.long s2), .second, .val (.long f2), .second, .val (.ref b34), .val (.ref b38), .val (.ref b43), .val (.ref b139), .val (.long (0 : Int64)), .second] [(.int (3 : Int32)), (.int (0 : Int32))])) _
      refine XS.icmpYes X146.here hx rfl (pc0 := 366) (pc' := 380) rfl (hb hby at_366) rfl (feq (by decide : ¬ ((0 : Int32) = (3 : Int32)))).2 (by decide) (by decide) ?_
      refine XS.aload X146.here hx rfl (hb hby at_380) rfl rfl ?_
      show Steps p.tables e below (T146.setTop (mkF m 382 #[.val (.int im), .val (.int ib), .val (.int i0), .val (.int i1), .val (.int i2), .val (.long ga), .second, .val (.int (0 : Int32)), .val (.int (0 : Int32)), .val (.int (1 : Int32)), .val (.ref b1), .val (.long (ib.toInt64)), .second, .val (.long f0), .second, .val (.long s1), .second, .val (.long f1), .second, .val (.long s2), .second, .val (.long f2), .second, .val (.ref b34), .val (.ref b38), .val (.ref b43), .val (.ref b139), .val (.long (0 : Int64)), .second] [(.ref b139)])) _
      refine st156.trans ?_
      refine XS.lload X156.here hx rfl (hb hby at_385) rfl ?_
      show Steps p.tables e below (T156.setTop (mkF m 387 #[.val (.int im), .val (.int ib), .val (.int i0), .val (.int i1), .val (.int i2), .val (.long ga), .second, .val (.int (0 : Int32)), .val (.int (0 : Int32)), .val (.int (1 : Int32)), .val (.ref b1), .val (.long (ib.toInt64)), .second, .val (.long f0), .second, .val (.long s1), .second, .val (.long f1), .second, .val (.long s2), .second, .val (.long f2), .second, .val (.ref b34), .val (.ref b38), .val (.ref b43), .val (.ref b139), .val (.long (0 : Int64)), .second] [(.long (0 : Int64)), (.double FP.dconst0)])) _
      refine XS.l2dS X156.here hx rfl (hb hby at_387) rfl rfl ?_
      show Steps p.tables e below (T156.setTop (mkF m 388 #[.val (.int im), .val (.int ib), .val (.int i0), .val (.int i1), .val (.int i2), .val (.long ga), .second, .val (.int (0 : Int32)), .val (.int (0 : Int32)), .val (.int (1 : Int32)), .val (.ref b1), .val (.long (ib.toInt64)), .second, .val (.long f0), .second, .val (.long s1), .second, .val (.long f1), .second, .val (.long s2), .second, .val (.long f2), .second, .val (.ref b34), .val (.ref b38), .val (.ref b43), .val (.ref b139), .val (.long (0 : Int64)), .second] [(.double (FP.l2d (0 : Int64))), (.double FP.dconst0)])) _
      refine XS.dcmpS X156.here hx rfl (hb hby at_388) rfl (v := (0 : Int32)) own_cmp0 ?_
      show Steps p.tables e below (T156.setTop (mkF m 389 #[.val (.int im), .val (.int ib), .val (.int i0), .val (.int i1), .val (.int i2), .val (.long ga), .second, .val (.int (0 : Int32)), .val (.int (0 : Int32)), .val (.int (1 : Int32)), .val (.ref b1), .val (.long (ib.toInt64)), .second, .val (.long f0), .second, .val (.long s1), .second, .val (.long f1), .second, .val (.long s2), .second, .val (.long f2), .second, .val (.ref b34), .val (.ref b38), .val (.ref b43), .val (.ref b139), .val (.long (0 : Int64)), .second] [(.int (0 : Int32))])) _
      refine XS.ifNo X156.here hx rfl (hb hby at_389) rfl ((if0 _ _).trans (teq (by decide : ((0 : Int32) = (0 : Int32)))).2) ?_
      refine XS.iconst X156.here hx rfl (hb hby at_392) ?_
      refine XS.goto X156.here hx rfl (pc0 := 393) (pc' := 397) rfl (hb hby at_393) (by decide) (by decide) ?_
      show Steps p.tables e below (T156.setTop (mkF m 397 #[.val (.int im), .val (.int ib), .val (.int i0), .val (.int i1), .val (.int i2), .val (.long ga), .second, .val (.int (0 : Int32)), .val (.int (0 : Int32)), .val (.int (1 : Int32)), .val (.ref b1), .val (.long (ib.toInt64)), .second, .val (.long f0), .second, .val (.long s1), .second, .val (.long f1), .second, .val (.long s2), .second, .val (.long f2), .second, .val (.ref b34), .val (.ref b38), .val (.ref b43), .val (.ref b139), .val (.long (0 : Int64)), .second] [(.int (1 : Int32))])) _
      exact retN X156 hx (t := .boolean) Bd.returns (by simp) (hb hby at_397) hr
    · show own_Q0 Z im ib i0 i1 i2 ga h0 n0 _ T156.heap _
      rw [e156]
      exact ⟨rfl, N156⟩
  · have k157 : ∀ tq, Steps p.tables e below (T146.setTop (mkF m 274 #[.val (.int im), .val (.int ib), .val (.int i0), .val (.int i1), .val (.int i2), .val (.long ga), .second, .val (.int (1 : Int32)), .val (.int (0 : Int32)), .val (.int (1 : Int32)), .val (.ref b1), .val (.long (ib.toInt64)), .second, .val (.long f0), .second, .val (.long s1), .second, .val (.long f1), .second, .val (.long s2), .second, .val (.long f2), .second, .val (.ref b34), .val (.ref b38), .val (.ref b43), .val (.ref b139), .unset, .unset] [])) tq → Steps p.tables e below (s₁.setTop (entryFrame m #[(.int im), (.int ib), (.int i0), (.int i1), (.int i2), (.long ga)] maxLocals)) tq := by
      intro tq kt
      refine k154 tq ?_
      rw [hn]
      exact kt
    obtain ⟨cq158, kq158, q158a, q158b, q158c⟩ := isOf hZ rfl Eo146
    obtain ⟨_, _, ⟨T158, L158, k158, n158⟩, -, X158, ⟨Lc158, hQ158, l158, y158, z158⟩, st158⟩ := X146.virtualBack hx (y := (⟨"com/example/makespun/makespun/simulate/Timeline", "add", "(II)V"⟩ : MethodName)) (z := (⟨"com/example/makespun/makespun/simulate/Timeline", "add", "(II)V"⟩ : MethodName)) hown (mvT hZ (hw _ (List.mem_of_getElem? (i := 27) rfl))) (mvT hZ (hw _ (List.mem_of_getElem? (i := 28) rfl))) (notFace_of_selects (args := #[]) (mvT hZ (hw _ (List.mem_of_getElem? (i := 30) rfl)))) (mvT hZ (hw _ (List.mem_of_getElem? (i := 30) rfl))) (mvT hZ (hw _ (List.mem_of_getElem? (i := 29) rfl))) (by decide) (backOf (W := 0) (rmA00 l Z a0 hw [] b139 bt146 b38 kb146 (0 : Int32) (0 : Int32) (0 : Int32) (0 : Int32) (0 : Int32) T146.heap n0 z152 Eo146 Ft146 Fs146 Ff146 Fi146 Vt146 ne_b139_bt146 g_b139 g_bt146) hZ (hw _ (List.mem_of_getElem? (i := 31) rfl)) (hw _ (List.mem_of_getElem? (i := 7) rfl)) (by decide) (by decide)) q158a q158c (g := (mkF m 284 #[.val (.int im), .val (.int ib), .val (.int i0), .val (.int i1), .val (.int i2), .val (.long ga), .second, .val (.int (1 : Int32)), .val (.int (0 : Int32)), .val (.int (1 : Int32)), .val (.ref b1), .val (.long (ib.toInt64)), .second, .val (.long f0), .second, .val (.long s1), .second, .val (.long f1), .second, .val (.long s2), .second, .val (.long f2), .second, .val (.ref b34), .val (.ref b38), .val (.ref b43), .val (.ref b139), .unset, .unset] [(.int (0 : Int32)), (.int (0 : Int32)), (.ref b139)])) rfl (by rw [hml]; rfl) (Steps.refl _) (argsL := [(.int (0 : Int32)), (.int (0 : Int32))]) (rest := []) (lenOf pd_3 rfl) rfl (by show 2 * 0 + _ ≤ _; exact Nat.le_of_eq rfl) (hb hby at_284) (fun _ _ => ⟨rfl, rfl, (by decide : 6 + 0 ≤ _), (by decide : 21 + 0 ≤ _)⟩)
    dsimp only [Pt.U, Pt.locs, Pt.cells, Pt.slots] at X158 l158 y158 z158 st158 hQ158
    replace X158 := own_cast X158 l158 y158 z158
    obtain ⟨hv158, N158q, K158, Eo158, Ft158, Fs158, Ff158, Fi158, Vt158⟩ := hQ158
    rw [hv158] at st158
    have N158 := Fr.app N146 N158q
    have f159 := f147.keep K158 (ninS ne_b1_b139 (ninS ne_b1_bt146 nin0))
    have f160 := f148.keep K158 (ninS ne_b34_b139 (ninS ne_b34_bt146 nin0))
    have f161 := f149.keep K158 (ninS ne_b38_b139 (ninS ne_b38_bt146 nin0))
    have f162 := f150.keep K158 (ninS ne_b43_b139 (ninS ne_b43_bt146 nin0))
    have f163 := Eo146.keep K158
    have z164 := Nat.le_trans z152 K158.1
    have kp165 := Keep.trans kp153 K158 (allS (Or.inr sz_b139) (allS (Or.inr sz_bt146) all0))
    obtain ⟨clq166, Arq166, cq166, Sq166, nq166, Hq166, Gq166⟩ := id f162
    have hiq166 : ¬ ((0 : Int32) < 0 ∨ clq166.slots.size ≤ ((0 : Int32)).toNatClampNeg) := inb_of Sq166 ⟨by decide, by decide⟩
    have haq166 : clq166.slots[((0 : Int32)).toNatClampNeg]? = some (.long f1) := Hq166.at hiq166 rfl
    obtain ⟨cq167, kq167, q167a, q167b, q167c⟩ := isOf hZ rfl Eo158
    obtain ⟨_, _, ⟨T167, L167, k167, n167⟩, -, X167, ⟨Lc167, hQ167, l167, y167, z167⟩, st167⟩ := X158.virtualBack hx (y := (⟨"com/example/makespun/makespun/simulate/Timeline", "freeAt", "()D"⟩ : MethodName)) (z := (⟨"com/example/makespun/makespun/simulate/Timeline", "freeAt", "()D"⟩ : MethodName)) hown (mvT hZ (hw _ (List.mem_of_getElem? (i := 20) rfl))) (mvT hZ (hw _ (List.mem_of_getElem? (i := 21) rfl))) (notFace_of_selects (args := #[]) (mvT hZ (hw _ (List.mem_of_getElem? (i := 23) rfl)))) (mvT hZ (hw _ (List.mem_of_getElem? (i := 23) rfl))) (mvT hZ (hw _ (List.mem_of_getElem? (i := 22) rfl))) (by decide) (backOf (W := 0) (rmF10 l Z a0 hw [] b139 bt146 b38 kb146 k38 (0 : Int32) (0 : Int32) (0 : Int32) (FP.l2d f1) (FP.l2d f0) (FP.l2d f2) T158.heap n0 z164 Ft158 Fs158 Ff158 Vt158 f161) hZ (hw _ (List.mem_of_getElem? (i := 24) rfl)) (hw _ (List.mem_of_getElem? (i := 7) rfl)) (by decide) (by decide)) q167a q167c (g := (mkF m 382 #[.val (.int im), .val (.int ib), .val (.int i0), .val (.int i1), .val (.int i2), .val (.long ga), .second, .val (.int (1 : Int32)), .val (.int (0 : Int32)), .val (.int (1 : Int32)), .val (.ref b1), .val (.long (ib.toInt64)), .second, .val (.long f0), .second, .val (.long s1), .second, .val (.long f1), .second, .val (.long s2), .second, .val (.long f2), .second, .val (.ref b34), .val (.ref b38), .val (.ref b43), .val (.ref b139), .val (.long f1), .second] [(.ref b139)])) rfl (by rw [hml]; rfl) (Steps.refl _) (argsL := []) (rest := []) (lenOf pd_2 rfl) rfl (by show 2 * 0 + _ ≤ _; exact Nat.le_of_eq rfl) (hb hby at_382) (fun _ _ => ⟨rfl, rfl, (by decide : 6 + 0 ≤ _), (by decide : 21 + 0 ≤ _)⟩)
    dsimp only [Pt.U, Pt.locs, Pt.cells, Pt.slots] at X167 l167 y167 z167 st167 hQ167
    replace X167 := own_cast X167 l167 y167 z167
    obtain ⟨hv167, N167q, e167⟩ := hQ167
    rw [hv167] at st167
    have N167 := Fr.app N158 N167q
    obtain ⟨fs, hr, hrun, hended, hW, hsame⟩ := X167.leave (v := some (.int (1 : Int32))) (fun h => by rw [Bd.returns] at h; cases h)
    refine ⟨_, _, k157 _ ?_, hrun, hended, _, _, rfl, ?_, ⟨_, rfl⟩, hW, hsame.mono (by decide) (by decide)⟩
    · refine XS.iload X146.here hx rfl (hb hby at_274) rfl ?_
      show Steps p.tables e below (T146.setTop (mkF m 276 #[.val (.int im), .val (.int ib), .val (.int i0), .val (.int i1), .val (.int i2), .val (.long ga), .second, .val (.int (1 : Int32)), .val (.int (0 : Int32)), .val (.int (1 : Int32)), .val (.ref b1), .val (.long (ib.toInt64)), .second, .val (.long f0), .second, .val (.long s1), .second, .val (.long f1), .second, .val (.long s2), .second, .val (.long f2), .second, .val (.ref b34), .val (.ref b38), .val (.ref b43), .val (.ref b139), .unset, .unset] [(.int (1 : Int32))])) _
      refine XS.iconst X146.here hx rfl (hb hby at_276) ?_
      show Steps p.tables e below (T146.setTop (mkF m 277 #[.val (.int im), .val (.int ib), .val (.int i0), .val (.int i1), .val (.int i2), .val (.long ga), .second, .val (.int (1 : Int32)), .val (.int (0 : Int32)), .val (.int (1 : Int32)), .val (.ref b1), .val (.long (ib.toInt64)), .second, .val (.long f0), .second, .val (.long s1), .second, .val (.long f1), .second, .val (.long s2), .second, .val (.long f2), .second, .val (.ref b34), .val (.ref b38), .val (.ref b43), .val (.ref b139), .unset, .unset] [(.int (1 : Int32)), (.int (1 : Int32))])) _
      refine XS.icmpNo X146.here hx rfl (hb hby at_277) rfl (flt (by decide : ¬ ((1 : Int32) < (1 : Int32)))).1 ?_
      refine XS.aload X146.here hx rfl (hb hby at_280) rfl rfl ?_
      refine XS.iconst X146.here hx rfl (hb hby at_282) ?_
      refine XS.iconst X146.here hx rfl (hb hby at_283) ?_
      refine st158.trans ?_
      refine XS.iload X158.here hx rfl (hb hby at_287) rfl ?_
      show Steps p.tables e below (T158.setTop (mkF m 289 #[.val (.int im), .val (.int ib), .val (.int i0), .val (.int i1), .val (.int i2), .val (.long ga), .second, .val (.int (1 : Int32)), .val (.int (0 : Int32)), .val (.int (1 : Int32)), .val (.ref b1), .val (.long (ib.toInt64)), .second, .val (.long f0), .second, .val (.long s1), .second, .val (.long f1), .second, .val (.long s2), .second, .val (.long f2), .second, .val (.ref b34), .val (.ref b38), .val (.ref b43), .val (.ref b139), .unset, .unset] [(.int (1 : Int32))])) _
      refine XS.iconst X158.here hx rfl (hb hby at_289) ?_
      show Steps p.tables e below (T158.setTop (mkF m 290 #[.val (.int im), .val (.int ib), .val (.int i0), .val (.int i1), .val (.int i2), .val (.long ga), .second, .val (.int (1 : Int32)), .val (.int (0 : Int32)), .val (.int (1 : Int32)), .val (.ref b1), .val (.long (ib.toInt64)), .second, .val (.long f0), .second, .val (.long s1), .second, .val (.long f1), .second, .val (.long s2), .second, .val (.long f2), .second, .val (.ref b34), .val (.ref b38), .val (.ref b43), .val (.ref b139), .unset, .unset] [(.int (2 : Int32)), (.int (1 : Int32))])) _
      refine XS.icmpYes X158.here hx rfl (pc0 := 290) (pc' := 309) rfl (hb hby at_290) rfl (tlt (by decide : ((1 : Int32) < (2 : Int32)))).1 (by decide) (by decide) ?_
      refine XS.iload X158.here hx rfl (hb hby at_309) rfl ?_
      refine XS.iconst X158.here hx rfl (hb hby at_311) ?_
      show Steps p.tables e below (T158.setTop (mkF m 312 #[.val (.int im), .val (.int ib), .val (.int i0), .val (.int i1), .val (.int i2), .val (.long ga), .second, .val (.int (1 : Int32)), .val (.int (0 : Int32)), .val (.int (1 : Int32)), .val (.ref b1), .val (.long (ib.toInt64)), .second, .val (.long f0), .second, .val (.long s1), .second, .val (.long f1), .second, .val (.long s2), .second, .val (.long f2), .second, .val (.ref b34), .val (.ref b38), .val (.ref b43), .val (.ref b139), .unset, .unset] [(.int (3 : Int32)), (.int (1 : Int32))])) _
      refine XS.icmpYes X158.here hx rfl (pc0 := 312) (pc' := 331) rfl (hb hby at_312) rfl (feq (by decide : ¬ ((1 : Int32) = (3 : Int32)))).2 (by decide) (by decide) ?_
      refine XS.lconst X158.here hx rfl (hb hby at_331) ?_
      refine XS.lstore X158.here hx rfl (hb hby at_332) rfl (l' := #[.val (.int im), .val (.int ib), .val (.int i0), .val (.int i1), .val (.int i2), .val (.long ga), .second, .val (.int (1 : Int32)), .val (.int (0 : Int32)), .val (.int (1 : Int32)), .val (.ref b1), .val (.long (ib.toInt64)), .second, .val (.long f0), .second, .val (.long s1), .second, .val (.long f1), .second, .val (.long s2), .second, .val (.long f2), .second, .val (.ref b34), .val (.ref b38), .val (.ref b43), .val (.ref b139), .val (.long (0 : Int64)), .second]) rfl ?_
      refine XS.iload X158.here hx rfl (hb hby at_334) rfl ?_
      show Steps p.tables e below (T158.setTop (mkF m 336 #[.val (.int im), .val (.int ib), .val (.int i0), .val (.int i1), .val (.int i2), .val (.long ga), .second, .val (.int (1 : Int32)), .val (.int (0 : Int32)), .val (.int (1 : Int32)), .val (.ref b1), .val (.long (ib.toInt64)), .second, .val (.long f0), .second, .val (.long s1), .second, .val (.long f1), .second, .val (.long s2), .second, .val (.long f2), .second, .val (.ref b34), .val (.ref b38), .val (.ref b43), .val (.ref b139), .val (.long (0 : Int64)), .second] [(.int (1 : Int32))])) _
      refine XS.iconst X158.here hx rfl (hb hby at_336) ?_
      show Steps p.tables e below (T158.setTop (mkF m 337 #[.val (.int im), .val (.int ib), .val (.int i0), .val (.int i1), .val (.int i2), .val (.long ga), .second, .val (.int (1 : Int32)), .val (.int (0 : Int32)), .val (.int (1 : Int32)), .val (.ref b1), .val (.long (ib.toInt64)), .second, .val (.long f0), .second, .val (.long s1), .second, .val (.long f1), .second, .val (.long s2), .second, .val (.long f2), .second, .val (.ref b34), .val (.ref b38), .val (.ref b43), .val (.ref b139), .val (.long (0 : Int64)), .second] [(.int (1 : Int32)), (.int (1 : Int32))])) _
      refine XS.icmpNo X158.here hx rfl (hb hby at_337) rfl (flt (by decide : ¬ ((1 : Int32) < (1 : Int32)))).1 ?_
      refine XS.aload X158.here hx rfl (hb hby at_340) rfl rfl ?_
      refine XS.iconst X158.here hx rfl (hb hby at_342) ?_
      refine X158.laload hx (j := (0 : Int32)) (v := (.long f1)) (by exact Arq166.1) (State.isArrayOf_alike hZ.alike Arq166.2.1) Arq166.2.2 hiq166 haq166 (g := (mkF m 343 #[.val (.int im), .val (.int ib), .val (.int i0), .val (.int i1), .val (.int i2), .val (.long ga), .second, .val (.int (1 : Int32)), .val (.int (0 : Int32)), .val (.int (1 : Int32)), .val (.ref b1), .val (.long (ib.toInt64)), .second, .val (.long f0), .second, .val (.long s1), .second, .val (.long f1), .second, .val (.long s2), .second, .val (.long f2), .second, .val (.ref b34), .val (.ref b38), .val (.ref b43), .val (.ref b139), .val (.long (0 : Int64)), .second] [(.int (0 : Int32)), (.ref b43)])) rfl rfl (hb hby at_343) _ ?_
      refine XS.lstore X158.here hx rfl (hb hby at_344) rfl (l' := #[.val (.int im), .val (.int ib), .val (.int i0), .val (.int i1), .val (.int i2), .val (.long ga), .second, .val (.int (1 : Int32)), .val (.int (0 : Int32)), .val (.int (1 : Int32)), .val (.ref b1), .val (.long (ib.toInt64)), .second, .val (.long f0), .second, .val (.long s1), .second, .val (.long f1), .second, .val (.long s2), .second, .val (.long f2), .second, .val (.ref b34), .val (.ref b38), .val (.ref b43), .val (.ref b139), .val (.long f1), .second]) rfl ?_
      refine XS.iload X158.here hx rfl (hb hby at_346) rfl ?_
      show Steps p.tables e below (T158.setTop (mkF m 348 #[.val (.int im), .val (.int ib), .val (.int i0), .val (.int i1), .val (.int i2), .val (.long ga), .second, .val (.int (1 : Int32)), .val (.int (0 : Int32)), .val (.int (1 : Int32)), .val (.ref b1), .val (.long (ib.toInt64)), .second, .val (.long f0), .second, .val (.long s1), .second, .val (.long f1), .second, .val (.long s2), .second, .val (.long f2), .second, .val (.ref b34), .val (.ref b38), .val (.ref b43), .val (.ref b139), .val (.long f1), .second] [(.int (1 : Int32))])) _
      refine XS.iconst X158.here hx rfl (hb hby at_348) ?_
      show Steps p.tables e below (T158.setTop (mkF m 349 #[.val (.int im), .val (.int ib), .val (.int i0), .val (.int i1), .val (.int i2), .val (.long ga), .second, .val (.int (1 : Int32)), .val (.int (0 : Int32)), .val (.int (1 : Int32)), .val (.ref b1), .val (.long (ib.toInt64)), .second, .val (.long f0), .second, .val (.long s1), .second, .val (.long f1), .second, .val (.long s2), .second, .val (.long f2), .second, .val (.ref b34), .val (.ref b38), .val (.ref b43), .val (.ref b139), .val (.long f1), .second] [(.int (2 : Int32)), (.int (1 : Int32))])) _
      refine XS.icmpYes X158.here hx rfl (pc0 := 349) (pc' := 363) rfl (hb hby at_349) rfl (tlt (by decide : ((1 : Int32) < (2 : Int32)))).1 (by decide) (by decide) ?_
      refine XS.iload X158.here hx rfl (hb hby at_363) rfl ?_
      refine XS.iconst X158.here hx rfl (hb hby at_365) ?_
      show Steps p.tables e below (T158.setTop (mkF m 366 #[.val (.int im), .val (.int ib), .val (.int i0), .val (.int i1), .val (.int i2), .val (.long ga), .second, .val (.int (1 : Int32)), .val (.int (0 : Int32)), .val (.int (1 : Int32)), .val (.ref b1), .val (.long (ib.toInt64)), .second, .val (.long f0), .second, .val (.long s1), .second, .val (.long f1), .second, .val (.long s2), .second, .val (.long f2), .second, .val (.ref b34), .val (.ref b38), .val (.ref b43), .val (.ref b139), .val (.long f1), .second] [(.int (3 : Int32)), (.int (1 : Int32))])) _
      refine XS.icmpYes X158.here hx rfl (pc0 := 366) (pc' := 380) rfl (hb hby at_366) rfl (feq (by decide : ¬ ((1 : Int32) = (3 : Int32)))).2 (by decide) (by decide) ?_
      refine XS.aload X158.here hx rfl (hb hby at_380) rfl rfl ?_
      refine st167.trans ?_
      refine XS.lload X167.here hx rfl (hb hby at_385) rfl ?_
      show Steps p.tables e below (T167.setTop (mkF m 387 #[.val (.int im), .val (.int ib), .val (.int i0), .val (.int i1), .val (.int i2), .val (.long ga), .second, .val (.int (1 : Int32)), .val (.int (0 : Int32)), .val (.int (1 : Int32)), .val (.ref b1), .val (.long (ib.toInt64)), .second, .val (.long f0), .second, .val (.long s1), .second, .val (.long f1), .second, .val (.long s2), .second, .val (.long f2), .second, .val (.ref b34), .val (.ref b38), .val (.ref b43), .val (.ref b139), .val (.long f1), .second] [(.long f1), (.double (FP.l2d f1))])) _
      refine XS.l2dS X167.here hx rfl (hb hby at_387) rfl rfl ?_
      show Steps p.tables e below (T167.setTop (mkF m 388 #[.val (.int im), .val (.int ib), .val (.int i0), .val (.int i1), .val (.int i2), .val (.long ga), .second, .val (.int (1 : Int32)), .val (.int (0 : Int32)), .val (.int (1 : Int32)), .val (.ref b1), .val (.long (ib.toInt64)), .second, .val (.long f0), .second, .val (.long s1), .second, .val (.long f1), .second, .val (.long s2), .second, .val (.long f2), .second, .val (.ref b34), .val (.ref b38), .val (.ref b43), .val (.ref b139), .val (.long f1), .second] [(.double (FP.l2d f1)), (.double (FP.l2d f1))])) _
      refine XS.dcmpS X167.here hx rfl (hb hby at_388) rfl (v := (0 : Int32)) (own_cmp (rfl : f1 = f1)) ?_
      show Steps p.tables e below (T167.setTop (mkF m 389 #[.val (.int im), .val (.int ib), .val (.int i0), .val (.int i1), .val (.int i2), .val (.long ga), .second, .val (.int (1 : Int32)), .val (.int (0 : Int32)), .val (.int (1 : Int32)), .val (.ref b1), .val (.long (ib.toInt64)), .second, .val (.long f0), .second, .val (.long s1), .second, .val (.long f1), .second, .val (.long s2), .second, .val (.long f2), .second, .val (.ref b34), .val (.ref b38), .val (.ref b43), .val (.ref b139), .val (.long f1), .second] [(.int (0 : Int32))])) _
      refine XS.ifNo X167.here hx rfl (hb hby at_389) rfl ((if0 _ _).trans (teq (by decide : ((0 : Int32) = (0 : Int32)))).2) ?_
      refine XS.iconst X167.here hx rfl (hb hby at_392) ?_
      refine XS.goto X167.here hx rfl (pc0 := 393) (pc' := 397) rfl (hb hby at_393) (by decide) (by decide) ?_
      show Steps p.tables e below (T167.setTop (mkF m 397 #[.val (.int im), .val (.int ib), .val (.int i0), .val (.int i1), .val (.int i2), .val (.long ga), .second, .val (.int (1 : Int32)), .val (.int (0 : Int32)), .val (.int (1 : Int32)), .val (.ref b1), .val (.long (ib.toInt64)), .second, .val (.long f0), .second, .val (.long s1), .second, .val (.long f1), .second, .val (.long s2), .second, .val (.long f2), .second, .val (.ref b34), .val (.ref b38), .val (.ref b43), .val (.ref b139), .val (.long f1), .second] [(.int (1 : Int32))])) _
      exact retN X167 hx (t := .boolean) Bd.returns (by simp) (hb hby at_397) hr
    · show own_Q0 Z im ib i0 i1 i2 ga h0 n0 _ T167.heap _
      rw [e167]
      exact ⟨rfl, N167⟩
  · have k168 : ∀ tq, Steps p.tables e below (T146.setTop (mkF m 274 #[.val (.int im), .val (.int ib), .val (.int i0), .val (.int i1), .val (.int i2), .val (.long ga), .second, .val (.int (2 : Int32)), .val (.int (0 : Int32)), .val (.int (1 : Int32)), .val (.ref b1), .val (.long (ib.toInt64)), .second, .val (.long f0), .second, .val (.long s1), .second, .val (.long f1), .second, .val (.long s2), .second, .val (.long f2), .second, .val (.ref b34), .val (.ref b38), .val (.ref b43), .val (.ref b139), .unset, .unset] [])) tq → Steps p.tables e below (s₁.setTop (entryFrame m #[(.int im), (.int ib), (.int i0), (.int i1), (.int i2), (.long ga)] maxLocals)) tq := by
      intro tq kt
      refine k154 tq ?_
      rw [hn]
      exact kt
    obtain ⟨cq169, kq169, q169a, q169b, q169c⟩ := isOf hZ rfl Eo146
    obtain ⟨_, _, ⟨T169, L169, k169, n169⟩, -, X169, ⟨Lc169, hQ169, l169, y169, z169⟩, st169⟩ := X146.virtualBack hx (y := (⟨"com/example/makespun/makespun/simulate/Timeline", "add", "(II)V"⟩ : MethodName)) (z := (⟨"com/example/makespun/makespun/simulate/Timeline", "add", "(II)V"⟩ : MethodName)) hown (mvT hZ (hw _ (List.mem_of_getElem? (i := 27) rfl))) (mvT hZ (hw _ (List.mem_of_getElem? (i := 28) rfl))) (notFace_of_selects (args := #[]) (mvT hZ (hw _ (List.mem_of_getElem? (i := 30) rfl)))) (mvT hZ (hw _ (List.mem_of_getElem? (i := 30) rfl))) (mvT hZ (hw _ (List.mem_of_getElem? (i := 29) rfl))) (by decide) (backOf (W := 0) (rmA00 l Z a0 hw [] b139 bt146 b38 kb146 (0 : Int32) (0 : Int32) (0 : Int32) (0 : Int32) (0 : Int32) T146.heap n0 z152 Eo146 Ft146 Fs146 Ff146 Fi146 Vt146 ne_b139_bt146 g_b139 g_bt146) hZ (hw _ (List.mem_of_getElem? (i := 31) rfl)) (hw _ (List.mem_of_getElem? (i := 7) rfl)) (by decide) (by decide)) q169a q169c (g := (mkF m 284 #[.val (.int im), .val (.int ib), .val (.int i0), .val (.int i1), .val (.int i2), .val (.long ga), .second, .val (.int (2 : Int32)), .val (.int (0 : Int32)), .val (.int (1 : Int32)), .val (.ref b1), .val (.long (ib.toInt64)), .second, .val (.long f0), .second, .val (.long s1), .second, .val (.long f1), .second, .val (.long s2), .second, .val (.long f2), .second, .val (.ref b34), .val (.ref b38), .val (.ref b43), .val (.ref b139), .unset, .unset] [(.int (0 : Int32)), (.int (0 : Int32)), (.ref b139)])) rfl (by rw [hml]; rfl) (Steps.refl _) (argsL := [(.int (0 : Int32)), (.int (0 : Int32))]) (rest := []) (lenOf pd_3 rfl) rfl (by show 2 * 0 + _ ≤ _; exact Nat.le_of_eq rfl) (hb hby at_284) (fun _ _ => ⟨rfl, rfl, (by decide : 6 + 0 ≤ _), (by decide : 21 + 0 ≤ _)⟩)
    dsimp only [Pt.U, Pt.locs, Pt.cells, Pt.slots] at X169 l169 y169 z169 st169 hQ169
    replace X169 := own_cast X169 l169 y169 z169
    obtain ⟨hv169, N169q, K169, Eo169, Ft169, Fs169, Ff169, Fi169, Vt169⟩ := hQ169
    rw [hv169] at st169
    have N169 := Fr.app N146 N169q
    have f170 := f147.keep K169 (ninS ne_b1_b139 (ninS ne_b1_bt146 nin0))
    have f171 := f148.keep K169 (ninS ne_b34_b139 (ninS ne_b34_bt146 nin0))
    have f172 := f149.keep K169 (ninS ne_b38_b139 (ninS ne_b38_bt146 nin0))
    have f173 := f150.keep K169 (ninS ne_b43_b139 (ninS ne_b43_bt146 nin0))
    have f174 := Eo146.keep K169
    have z175 := Nat.le_trans z152 K169.1
    have kp176 := Keep.trans kp153 K169 (allS (Or.inr sz_b139) (allS (Or.inr sz_bt146) all0))
    obtain ⟨cq177, kq177, q177a, q177b, q177c⟩ := isOf hZ rfl Eo169
    obtain ⟨_, _, ⟨T177, L177, k177, n177⟩, -, X177, ⟨Lc177, hQ177, l177, y177, z177⟩, st177⟩ := X169.virtualBack hx (y := (⟨"com/example/makespun/makespun/simulate/Timeline", "add", "(II)V"⟩ : MethodName)) (z := (⟨"com/example/makespun/makespun/simulate/Timeline", "add", "(II)V"⟩ : MethodName)) hown (mvT hZ (hw _ (List.mem_of_getElem? (i := 27) rfl))) (mvT hZ (hw _ (List.mem_of_getElem? (i := 28) rfl))) (notFace_of_selects (args := #[]) (mvT hZ (hw _ (List.mem_of_getElem? (i := 30) rfl)))) (mvT hZ (hw _ (List.mem_of_getElem? (i := 30) rfl))) (mvT hZ (hw _ (List.mem_of_getElem? (i := 29) rfl))) (by decide) (backOf (W := 0) (rmA01 l Z a0 hw [] b139 bt146 b38 kb146 (1 : Int32) (0 : Int32) (0 : Int32) (0 : Int32) (0 : Int32) T169.heap n0 z175 Eo169 Ft169 Fs169 Ff169 Fi169 Vt169 ne_b139_bt146 g_b139 g_bt146) hZ (hw _ (List.mem_of_getElem? (i := 31) rfl)) (hw _ (List.mem_of_getElem? (i := 7) rfl)) (by decide) (by decide)) q177a q177c (g := (mkF m 306 #[.val (.int im), .val (.int ib), .val (.int i0), .val (.int i1), .val (.int i2), .val (.long ga), .second, .val (.int (2 : Int32)), .val (.int (0 : Int32)), .val (.int (1 : Int32)), .val (.ref b1), .val (.long (ib.toInt64)), .second, .val (.long f0), .second, .val (.long s1), .second, .val (.long f1), .second, .val (.long s2), .second, .val (.long f2), .second, .val (.ref b34), .val (.ref b38), .val (.ref b43), .val (.ref b139), .unset, .unset] [(.int (1 : Int32)), (.int (0 : Int32)), (.ref b139)])) rfl (by rw [hml]; rfl) (Steps.refl _) (argsL := [(.int (0 : Int32)), (.int (1 : Int32))]) (rest := []) (lenOf pd_3 rfl) rfl (by show 2 * 0 + _ ≤ _; exact Nat.le_of_eq rfl) (hb hby at_306) (fun _ _ => ⟨rfl, rfl, (by decide : 6 + 0 ≤ _), (by decide : 21 + 0 ≤ _)⟩)
    dsimp only [Pt.U, Pt.locs, Pt.cells, Pt.slots] at X177 l177 y177 z177 st177 hQ177
    replace X177 := own_cast X177 l177 y177 z177
    obtain ⟨hv177, N177q, K177, Eo177, Ft177, Fs177, Ff177, Fi177, Vt177⟩ := hQ177
    rw [hv177] at st177
    have N177 := Fr.app N169 N177q
    have f178 := f170.keep K177 (ninS ne_b1_b139 (ninS ne_b1_bt146 nin0))
    have f179 := f171.keep K177 (ninS ne_b34_b139 (ninS ne_b34_bt146 nin0))
    have f180 := f172.keep K177 (ninS ne_b38_b139 (ninS ne_b38_bt146 nin0))
    have f181 := f173.keep K177 (ninS ne_b43_b139 (ninS ne_b43_bt146 nin0))
    have f182 := Eo169.keep K177
    have z183 := Nat.le_trans z175 K177.1
    have kp184 := Keep.trans kp176 K177 (allS (Or.inr sz_b139) (allS (Or.inr sz_bt146) all0))
    obtain ⟨clq185, Arq185, cq185, Sq185, nq185, Hq185, Gq185⟩ := id f181
    have hiq185 : ¬ ((0 : Int32) < 0 ∨ clq185.slots.size ≤ ((0 : Int32)).toNatClampNeg) := inb_of Sq185 ⟨by decide, by decide⟩
    have haq185 : clq185.slots[((0 : Int32)).toNatClampNeg]? = some (.long f1) := Hq185.at hiq185 rfl
    obtain ⟨clq186, Arq186, cq186, Sq186, nq186, Hq186, Gq186⟩ := id f181
    have hiq186 : ¬ ((1 : Int32) < 0 ∨ clq186.slots.size ≤ ((1 : Int32)).toNatClampNeg) := inb_of Sq186 ⟨by decide, by decide⟩
    have haq186 : clq186.slots[((1 : Int32)).toNatClampNeg]? = some (.long f0) := Hq186.at hiq186 rfl
    obtain ⟨_, _, ⟨T187, L187, k187, n187⟩, -, X187, ⟨Lc187, hQ187, l187, y187, z187⟩, st187⟩ := Jvm.LawKit.callS X177 hx (y := (⟨"java/lang/Math", "max", "(JJ)J"⟩ : MethodName)) hown (mvT hZ (hw _ (List.mem_of_getElem? (i := 38) rfl))) (mvT hZ (hw _ (List.mem_of_getElem? (i := 39) rfl))) (mvT hZ (hw _ (List.mem_of_getElem? (i := 40) rfl))) (mvT hZ (hw _ (List.mem_of_getElem? (i := 41) rfl))) (by decide) (backOf (W := 0) (rmX l Z a0 hw [] f1 f0 T177.heap n0 z183) hZ (hw _ (List.mem_of_getElem? (i := 41) rfl)) (hw _ (List.mem_of_getElem? (i := 40) rfl)) (by decide) (by decide)) (g := (mkF m 358 #[.val (.int im), .val (.int ib), .val (.int i0), .val (.int i1), .val (.int i2), .val (.long ga), .second, .val (.int (2 : Int32)), .val (.int (0 : Int32)), .val (.int (1 : Int32)), .val (.ref b1), .val (.long (ib.toInt64)), .second, .val (.long f0), .second, .val (.long s1), .second, .val (.long f1), .second, .val (.long s2), .second, .val (.long f2), .second, .val (.ref b34), .val (.ref b38), .val (.ref b43), .val (.ref b139), .val (.long f1), .second] [(.long f0), (.long f1)])) rfl (by rw [hml]; rfl) (argsL := [(.long f1), (.long f0)]) (rest := []) (lenOf pd_4 rfl) rfl (by show 2 * 0 + _ ≤ _; exact Nat.le_of_eq rfl) (hb hby at_358) (fun _ _ => ⟨rfl, rfl, (by decide : 6 + 0 ≤ _), (by decide : 21 + 0 ≤ _)⟩)
    dsimp only [Pt.U, Pt.locs, Pt.cells, Pt.slots] at X187 l187 y187 z187 st187 hQ187
    replace X187 := own_cast X187 l187 y187 z187
    obtain ⟨hv187, N187q, e187⟩ := hQ187
    rw [hv187] at st187
    have N187 := Fr.app N177 N187q
    obtain ⟨cq188, kq188, q188a, q188b, q188c⟩ := isOf hZ e187 Eo177
    obtain ⟨_, _, ⟨T188, L188, k188, n188⟩, -, X188, ⟨Lc188, hQ188, l188, y188, z188⟩, st188⟩ := X187.virtualBack hx (y := (⟨"com/example/makespun/makespun/simulate/Timeline", "freeAt", "()D"⟩ : MethodName)) (z := (⟨"com/example/makespun/makespun/simulate/Timeline", "freeAt", "()D"⟩ : MethodName)) hown (mvT hZ (hw _ (List.mem_of_getElem? (i := 20) rfl))) (mvT hZ (hw _ (List.mem_of_getElem? (i := 21) rfl))) (notFace_of_selects (args := #[]) (mvT hZ (hw _ (List.mem_of_getElem? (i := 23) rfl)))) (mvT hZ (hw _ (List.mem_of_getElem? (i := 23) rfl))) (mvT hZ (hw _ (List.mem_of_getElem? (i := 22) rfl))) (by decide) (backOf (W := 0) (rmF20 l Z a0 hw [] b139 bt146 b38 kb146 k38 (1 : Int32) (0 : Int32) (0 : Int32) (FP.l2d f1) (FP.l2d f0) (FP.l2d f2) T177.heap n0 z183 Ft177 Fs177 Ff177 Vt177 f180) hZ (hw _ (List.mem_of_getElem? (i := 24) rfl)) (hw _ (List.mem_of_getElem? (i := 7) rfl)) (by decide) (by decide)) q188a q188c (g := (mkF m 382 #[.val (.int im), .val (.int ib), .val (.int i0), .val (.int i1), .val (.int i2), .val (.long ga), .second, .val (.int (2 : Int32)), .val (.int (0 : Int32)), .val (.int (1 : Int32)), .val (.ref b1), .val (.long (ib.toInt64)), .second, .val (.long f0), .second, .val (.long s1), .second, .val (.long f1), .second, .val (.long s2), .second, .val (.long f2), .second, .val (.ref b34), .val (.ref b38), .val (.ref b43), .val (.ref b139), .val (.long (own_max f1 f0)), .second] [(.ref b139)])) rfl (by rw [hml]; rfl) (Steps.refl _) (argsL := []) (rest := []) (lenOf pd_2 rfl) rfl (by show 2 * 0 + _ ≤ _; exact Nat.le_of_eq rfl) (hb hby at_382) (fun _ _ => ⟨rfl, e187, (by decide : 6 + 0 ≤ _), (by decide : 21 + 0 ≤ _)⟩)
    dsimp only [Pt.U, Pt.locs, Pt.cells, Pt.slots] at X188 l188 y188 z188 st188 hQ188
    replace X188 := own_cast X188 l188 y188 z188
    obtain ⟨hv188, N188q, e188⟩ := hQ188
    rw [hv188] at st188
    have N188 := Fr.app N187 N188q
    obtain ⟨fs, hr, hrun, hended, hW, hsame⟩ := X188.leave (v := some (.int (1 : Int32))) (fun h => by rw [Bd.returns] at h; cases h)
    refine ⟨_, _, k168 _ ?_, hrun, hended, _, _, rfl, ?_, ⟨_, rfl⟩, hW, hsame.mono (by decide) (by decide)⟩
    · refine XS.iload X146.here hx rfl (hb hby at_274) rfl ?_
      refine XS.iconst X146.here hx rfl (hb hby at_276) ?_
      show Steps p.tables e below (T146.setTop (mkF m 277 #[.val (.int im), .val (.int ib), .val (.int i0), .val (.int i1), .val (.int i2), .val (.long ga), .second, .val (.int (2 : Int32)), .val (.int (0 : Int32)), .val (.int (1 : Int32)), .val (.ref b1), .val (.long (ib.toInt64)), .second, .val (.long f0), .second, .val (.long s1), .second, .val (.long f1), .second, .val (.long s2), .second, .val (.long f2), .second, .val (.ref b34), .val (.ref b38), .val (.ref b43), .val (.ref b139), .unset, .unset] [(.int (1 : Int32)), (.int (2 : Int32))])) _
      refine XS.icmpNo X146.here hx rfl (hb hby at_277) rfl (flt (by decide : ¬ ((2 : Int32) < (1 : Int32)))).1 ?_
      refine XS.aload X146.here hx rfl (hb hby at_280) rfl rfl ?_
      show Steps p.tables e below (T146.setTop (mkF m 282 #[.val (.int im), .val (.int ib), .val (.int i0), .val (.int i1), .val (.int i2), .val (.long ga), .second, .val (.int (2 : Int32)), .val (.int (0 : Int32)), .val (.int (1 : Int32)), .val (.ref b1), .val (.long (ib.toInt64)), .second, .val (.long f0), .second, .val (.long s1), .second, .val (.long f1), .second, .val (.long s2), .second, .val (.long f2), .second, .val (.ref b34), .val (.ref b38), .val (.ref b43), .val (.ref b139), .unset, .unset] [(.ref b139)])) _
      refine XS.iconst X146.here hx rfl (hb hby at_282) ?_
      refine XS.iconst X146.here hx rfl (hb hby at_283) ?_
      refine st169.trans ?_
      refine XS.iload X169.here hx rfl (hb hby at_287) rfl ?_
      refine XS.iconst X169.here hx rfl (hb hby at_289) ?_
      show Steps p.tables e below (T169.setTop (mkF m 290 #[.val (.int im), .val (.int ib), .val (.int i0), .val (.int i1), .val (.int i2), .val (.long ga), .second, .val (.int (2 : Int32)), .val (.int (0 : Int32)), .val (.int (1 : Int32)), .val (.ref b1), .val (.long (ib.toInt64)), .second, .val (.long f0), .second, .val (.long s1), .second, .val (.long f1), .second, .val (.long s2), .second, .val (.long f2), .second, .val (.ref b34), .val (.ref b38), .val (.ref b43), .val (.ref b139), .unset, .unset] [(.int (2 : Int32)), (.int (2 : Int32))])) _
      refine XS.icmpNo X169.here hx rfl (hb hby at_290) rfl (flt (by decide : ¬ ((2 : Int32) < (2 : Int32)))).1 ?_
      refine XS.aload X169.here hx rfl (hb hby at_293) rfl rfl ?_
      show Steps p.tables e below (T169.setTop (mkF m 295 #[.val (.int im), .val (.int ib), .val (.int i0), .val (.int i1), .val (.int i2), .val (.long ga), .second, .val (.int (2 : Int32)), .val (.int (0 : Int32)), .val (.int (1 : Int32)), .val (.ref b1), .val (.long (ib.toInt64)), .second, .val (.long f0), .second, .val (.long s1), .second, .val (.long f1), .second, .val (.long s2), .second, .val (.long f2), .second, .val (.ref b34), .val (.ref b38), .val (.ref b43), .val (.ref b139), .unset, .unset] [(.ref b139)])) _
      refine XS.iload X169.here hx rfl (hb hby at_295) rfl ?_
      show Steps p.tables e below (T169.setTop (mkF m 297 #[.val (.int im), .val (.int ib), .val (.int i0), .val (.int i1), .val (.int i2), .val (.long ga), .second, .val (.int (2 : Int32)), .val (.int (0 : Int32)), .val (.int (1 : Int32)), .val (.ref b1), .val (.long (ib.toInt64)), .second, .val (.long f0), .second, .val (.long s1), .second, .val (.long f1), .second, .val (.long s2), .second, .val (.long f2), .second, .val (.ref b34), .val (.ref b38), .val (.ref b43), .val (.ref b139), .unset, .unset] [(.int (0 : Int32)), (.ref b139)])) _
      refine XS.ifYes X169.here hx rfl (pc0 := 297) (pc' := 304) rfl (hb hby at_297) rfl ((if0 _ _).trans (teq (by decide : ((0 : Int32) = (0 : Int32)))).1) (by decide) (by decide) ?_
      refine XS.iconst X169.here hx rfl (hb hby at_304) ?_
      refine XS.iconst X169.here hx rfl (hb hby at_305) ?_
      refine st177.trans ?_
      refine XS.iload X177.here hx rfl (hb hby at_309) rfl ?_
      refine XS.iconst X177.here hx rfl (hb hby at_311) ?_
      show Steps p.tables e below (T177.setTop (mkF m 312 #[.val (.int im), .val (.int ib), .val (.int i0), .val (.int i1), .val (.int i2), .val (.long ga), .second, .val (.int (2 : Int32)), .val (.int (0 : Int32)), .val (.int (1 : Int32)), .val (.ref b1), .val (.long (ib.toInt64)), .second, .val (.long f0), .second, .val (.long s1), .second, .val (.long f1), .second, .val (.long s2), .second, .val (.long f2), .second, .val (.ref b34), .val (.ref b38), .val (.ref b43), .val (.ref b139), .unset, .unset] [(.int (3 : Int32)), (.int (2 : Int32))])) _
      refine XS.icmpYes X177.here hx rfl (pc0 := 312) (pc' := 331) rfl (hb hby at_312) rfl (feq (by decide : ¬ ((2 : Int32) = (3 : Int32)))).2 (by decide) (by decide) ?_
      show Steps p.tables e below (T177.setTop (mkF m 331 #[.val (.int im), .val (.int ib), .val (.int i0), .val (.int i1), .val (.int i2), .val (.long ga), .second, .val (.int (2 : Int32)), .val (.int (0 : Int32)), .val (.int (1 : Int32)), .val (.ref b1), .val (.long (ib.toInt64)), .second, .val (.long f0), .second, .val (.long s1), .second, .val (.long f1), .second, .val (.long s2), .second, .val (.long f2), .second, .val (.ref b34), .val (.ref b38), .val (.ref b43), .val (.ref b139), .unset, .unset] [])) _
      refine XS.lconst X177.here hx rfl (hb hby at_331) ?_
      refine XS.lstore X177.here hx rfl (hb hby at_332) rfl (l' := #[.val (.int im), .val (.int ib), .val (.int i0), .val (.int i1), .val (.int i2), .val (.long ga), .second, .val (.int (2 : Int32)), .val (.int (0 : Int32)), .val (.int (1 : Int32)), .val (.ref b1), .val (.long (ib.toInt64)), .second, .val (.long f0), .second, .val (.long s1), .second, .val (.long f1), .second, .val (.long s2), .second, .val (.long f2), .second, .val (.ref b34), .val (.ref b38), .val (.ref b43), .val (.ref b139), .val (.long (0 : Int64)), .second]) rfl ?_
      refine XS.iload X177.here hx rfl (hb hby at_334) rfl ?_
      refine XS.iconst X177.here hx rfl (hb hby at_336) ?_
      show Steps p.tables e below (T177.setTop (mkF m 337 #[.val (.int im), .val (.int ib), .val (.int i0), .val (.int i1), .val (.int i2), .val (.long ga), .second, .val (.int (2 : Int32)), .val (.int (0 : Int32)), .val (.int (1 : Int32)), .val (.ref b1), .val (.long (ib.toInt64)), .second, .val (.long f0), .second, .val (.long s1), .second, .val (.long f1), .second, .val (.long s2), .second, .val (.long f2), .second, .val (.ref b34), .val (.ref b38), .val (.ref b43), .val (.ref b139), .val (.long (0 : Int64)), .second] [(.int (1 : Int32)), (.int (2 : Int32))])) _
      refine XS.icmpNo X177.here hx rfl (hb hby at_337) rfl (flt (by decide : ¬ ((2 : Int32) < (1 : Int32)))).1 ?_
      refine XS.aload X177.here hx rfl (hb hby at_340) rfl rfl ?_
      refine XS.iconst X177.here hx rfl (hb hby at_342) ?_
      show Steps p.tables e below (T177.setTop (mkF m 343 #[.val (.int im), .val (.int ib), .val (.int i0), .val (.int i1), .val (.int i2), .val (.long ga), .second, .val (.int (2 : Int32)), .val (.int (0 : Int32)), .val (.int (1 : Int32)), .val (.ref b1), .val (.long (ib.toInt64)), .second, .val (.long f0), .second, .val (.long s1), .second, .val (.long f1), .second, .val (.long s2), .second, .val (.long f2), .second, .val (.ref b34), .val (.ref b38), .val (.ref b43), .val (.ref b139), .val (.long (0 : Int64)), .second] [(.int (0 : Int32)), (.ref b43)])) _
      refine X177.laload hx (j := (0 : Int32)) (v := (.long f1)) (by exact Arq185.1) (State.isArrayOf_alike hZ.alike Arq185.2.1) Arq185.2.2 hiq185 haq185 (g := (mkF m 343 #[.val (.int im), .val (.int ib), .val (.int i0), .val (.int i1), .val (.int i2), .val (.long ga), .second, .val (.int (2 : Int32)), .val (.int (0 : Int32)), .val (.int (1 : Int32)), .val (.ref b1), .val (.long (ib.toInt64)), .second, .val (.long f0), .second, .val (.long s1), .second, .val (.long f1), .second, .val (.long s2), .second, .val (.long f2), .second, .val (.ref b34), .val (.ref b38), .val (.ref b43), .val (.ref b139), .val (.long (0 : Int64)), .second] [(.int (0 : Int32)), (.ref b43)])) rfl rfl (hb hby at_343) _ ?_
      refine XS.lstore X177.here hx rfl (hb hby at_344) rfl (l' := #[.val (.int im), .val (.int ib), .val (.int i0), .val (.int i1), .val (.int i2), .val (.long ga), .second, .val (.int (2 : Int32)), .val (.int (0 : Int32)), .val (.int (1 : Int32)), .val (.ref b1), .val (.long (ib.toInt64)), .second, .val (.long f0), .second, .val (.long s1), .second, .val (.long f1), .second, .val (.long s2), .second, .val (.long f2), .second, .val (.ref b34), .val (.ref b38), .val (.ref b43), .val (.ref b139), .val (.long f1), .second]) rfl ?_
      refine XS.iload X177.here hx rfl (hb hby at_346) rfl ?_
      refine XS.iconst X177.here hx rfl (hb hby at_348) ?_
      show Steps p.tables e below (T177.setTop (mkF m 349 #[.val (.int im), .val (.int ib), .val (.int i0), .val (.int i1), .val (.int i2), .val (.long ga), .second, .val (.int (2 : Int32)), .val (.int (0 : Int32)), .val (.int (1 : Int32)), .val (.ref b1), .val (.long (ib.toInt64)), .second, .val (.long f0), .second, .val (.long s1), .second, .val (.long f1), .second, .val (.long s2), .second, .val (.long f2), .second, .val (.ref b34), .val (.ref b38), .val (.ref b43), .val (.ref b139), .val (.long f1), .second] [(.int (2 : Int32)), (.int (2 : Int32))])) _
      refine XS.icmpNo X177.here hx rfl (hb hby at_349) rfl (flt (by decide : ¬ ((2 : Int32) < (2 : Int32)))).1 ?_
      refine XS.lload X177.here hx rfl (hb hby at_352) rfl ?_
      refine XS.aload X177.here hx rfl (hb hby at_354) rfl rfl ?_
      show Steps p.tables e below (T177.setTop (mkF m 356 #[.val (.int im), .val (.int ib), .val (.int i0), .val (.int i1), .val (.int i2), .val (.long ga), .second, .val (.int (2 : Int32)), .val (.int (0 : Int32)), .val (.int (1 : Int32)), .val (.ref b1), .val (.long (ib.toInt64)), .second, .val (.long f0), .second, .val (.long s1), .second, .val (.long f1), .second, .val (.long s2), .second, .val (.long f2), .second, .val (.ref b34), .val (.ref b38), .val (.ref b43), .val (.ref b139), .val (.long f1), .second] [(.ref b43), (.long f1)])) _
      refine XS.iconst X177.here hx rfl (hb hby at_356) ?_
      refine X177.laload hx (j := (1 : Int32)) (v := (.long f0)) (by exact Arq186.1) (State.isArrayOf_alike hZ.alike Arq186.2.1) Arq186.2.2 hiq186 haq186 (g := (mkF m 357 #[.val (.int im), .val (.int ib), .val (.int i0), .val (.int i1), .val (.int i2), .val (.long ga), .second, .val (.int (2 : Int32)), .val (.int (0 : Int32)), .val (.int (1 : Int32)), .val (.ref b1), .val (.long (ib.toInt64)), .second, .val (.long f0), .second, .val (.long s1), .second, .val (.long f1), .second, .val (.long s2), .second, .val (.long f2), .second, .val (.ref b34), .val (.ref b38), .val (.ref b43), .val (.ref b139), .val (.long f1), .second] [(.int (1 : Int32)), (.ref b43), (.long f1)])) rfl rfl (hb hby at_357) _ ?_
      refine st187 _ ?_
      refine XS.lstore X187.here hx rfl (hb hby at_361) rfl (l' := #[.val (.int im), .val (.int ib), .val (.int i0), .val (.int i1), .val (.int i2), .val (.long ga), .second, .val (.int (2 : Int32)), .val (.int (0 : Int32)), .val (.int (1 : Int32)), .val (.ref b1), .val (.long (ib.toInt64)), .second, .val (.long f0), .second, .val (.long s1), .second, .val (.long f1), .second, .val (.long s2), .second, .val (.long f2), .second, .val (.ref b34), .val (.ref b38), .val (.ref b43), .val (.ref b139), .val (.long (own_max f1 f0)), .second]) rfl ?_
      refine XS.iload X187.here hx rfl (hb hby at_363) rfl ?_
      refine XS.iconst X187.here hx rfl (hb hby at_365) ?_
      show Steps p.tables e below (T187.setTop (mkF m 366 #[.val (.int im), .val (.int ib), .val (.int i0), .val (.int i1), .val (.int i2), .val (.long ga), .second, .val (.int (2 : Int32)), .val (.int (0 : Int32)), .val (.int (1 : Int32)), .val (.ref b1), .val (.long (ib.toInt64)), .second, .val (.long f0), .second, .val (.long s1), .second, .val (.long f1), .second, .val (.long s2), .second, .val (.long f2), .second, .val (.ref b34), .val (.ref b38), .val (.ref b43), .val (.ref b139), .val (.long (own_max f1 f0)), .second] [(.int (3 : Int32)), (.int (2 : Int32))])) _
      refine XS.icmpYes X187.here hx rfl (pc0 := 366) (pc' := 380) rfl (hb hby at_366) rfl (feq (by decide : ¬ ((2 : Int32) = (3 : Int32)))).2 (by decide) (by decide) ?_
      show Steps p.tables e below (T187.setTop (mkF m 380 #[.val (.int im), .val (.int ib), .val (.int i0), .val (.int i1), .val (.int i2), .val (.long ga), .second, .val (.int (2 : Int32)), .val (.int (0 : Int32)), .val (.int (1 : Int32)), .val (.ref b1), .val (.long (ib.toInt64)), .second, .val (.long f0), .second, .val (.long s1), .second, .val (.long f1), .second, .val (.long s2), .second, .val (.long f2), .second, .val (.ref b34), .val (.ref b38), .val (.ref b43), .val (.ref b139), .val (.long (own_max f1 f0)), .second] [])) _
      refine XS.aload X187.here hx rfl (hb hby at_380) rfl rfl ?_
      refine st188.trans ?_
      refine XS.lload X188.here hx rfl (hb hby at_385) rfl ?_
      show Steps p.tables e below (T188.setTop (mkF m 387 #[.val (.int im), .val (.int ib), .val (.int i0), .val (.int i1), .val (.int i2), .val (.long ga), .second, .val (.int (2 : Int32)), .val (.int (0 : Int32)), .val (.int (1 : Int32)), .val (.ref b1), .val (.long (ib.toInt64)), .second, .val (.long f0), .second, .val (.long s1), .second, .val (.long f1), .second, .val (.long s2), .second, .val (.long f2), .second, .val (.ref b34), .val (.ref b38), .val (.ref b43), .val (.ref b139), .val (.long (own_max f1 f0)), .second] [(.long (own_max f1 f0)), (.double (FP.l2d f1))])) _
      refine XS.l2dS X188.here hx rfl (hb hby at_387) rfl rfl ?_
      show Steps p.tables e below (T188.setTop (mkF m 388 #[.val (.int im), .val (.int ib), .val (.int i0), .val (.int i1), .val (.int i2), .val (.long ga), .second, .val (.int (2 : Int32)), .val (.int (0 : Int32)), .val (.int (1 : Int32)), .val (.ref b1), .val (.long (ib.toInt64)), .second, .val (.long f0), .second, .val (.long s1), .second, .val (.long f1), .second, .val (.long s2), .second, .val (.long f2), .second, .val (.ref b34), .val (.ref b38), .val (.ref b43), .val (.ref b139), .val (.long (own_max f1 f0)), .second] [(.double (FP.l2d (own_max f1 f0))), (.double (FP.l2d f1))])) _
      refine XS.dcmpS X188.here hx rfl (hb hby at_388) rfl (v := (0 : Int32)) (own_cmp (show f1 = (own_max f1 f0) from ((congrArg (fun z => own_max z f0) rfl).trans (own_max_l ho.1)).symm)) ?_
      show Steps p.tables e below (T188.setTop (mkF m 389 #[.val (.int im), .val (.int ib), .val (.int i0), .val (.int i1), .val (.int i2), .val (.long ga), .second, .val (.int (2 : Int32)), .val (.int (0 : Int32)), .val (.int (1 : Int32)), .val (.ref b1), .val (.long (ib.toInt64)), .second, .val (.long f0), .second, .val (.long s1), .second, .val (.long f1), .second, .val (.long s2), .second, .val (.long f2), .second, .val (.ref b34), .val (.ref b38), .val (.ref b43), .val (.ref b139), .val (.long (own_max f1 f0)), .second] [(.int (0 : Int32))])) _
      refine XS.ifNo X188.here hx rfl (hb hby at_389) rfl ((if0 _ _).trans (teq (by decide : ((0 : Int32) = (0 : Int32)))).2) ?_
      refine XS.iconst X188.here hx rfl (hb hby at_392) ?_
      refine XS.goto X188.here hx rfl (pc0 := 393) (pc' := 397) rfl (hb hby at_393) (by decide) (by decide) ?_
      show Steps p.tables e below (T188.setTop (mkF m 397 #[.val (.int im), .val (.int ib), .val (.int i0), .val (.int i1), .val (.int i2), .val (.long ga), .second, .val (.int (2 : Int32)), .val (.int (0 : Int32)), .val (.int (1 : Int32)), .val (.ref b1), .val (.long (ib.toInt64)), .second, .val (.long f0), .second, .val (.long s1), .second, .val (.long f1), .second, .val (.long s2), .second, .val (.long f2), .second, .val (.ref b34), .val (.ref b38), .val (.ref b43), .val (.ref b139), .val (.long (own_max f1 f0)), .second] [(.int (1 : Int32))])) _
      exact retN X188 hx (t := .boolean) Bd.returns (by simp) (hb hby at_397) hr
    · show own_Q0 Z im ib i0 i1 i2 ga h0 n0 _ T188.heap _
      rw [e188]
      exact ⟨rfl, N188⟩
  · have k189 : ∀ tq, Steps p.tables e below (T146.setTop (mkF m 274 #[.val (.int im), .val (.int ib), .val (.int i0), .val (.int i1), .val (.int i2), .val (.long ga), .second, .val (.int (3 : Int32)), .val (.int (0 : Int32)), .val (.int (1 : Int32)), .val (.ref b1), .val (.long (ib.toInt64)), .second, .val (.long f0), .second, .val (.long s1), .second, .val (.long f1), .second, .val (.long s2), .second, .val (.long f2), .second, .val (.ref b34), .val (.ref b38), .val (.ref b43), .val (.ref b139), .unset, .unset] [])) tq → Steps p.tables e below (s₁.setTop (entryFrame m #[(.int im), (.int ib), (.int i0), (.int i1), (.int i2), (.long ga)] maxLocals)) tq := by
      intro tq kt
      refine k154 tq ?_
      rw [hn]
      exact kt
    obtain ⟨cq190, kq190, q190a, q190b, q190c⟩ := isOf hZ rfl Eo146
    obtain ⟨_, _, ⟨T190, L190, k190, n190⟩, -, X190, ⟨Lc190, hQ190, l190, y190, z190⟩, st190⟩ := X146.virtualBack hx (y := (⟨"com/example/makespun/makespun/simulate/Timeline", "add", "(II)V"⟩ : MethodName)) (z := (⟨"com/example/makespun/makespun/simulate/Timeline", "add", "(II)V"⟩ : MethodName)) hown (mvT hZ (hw _ (List.mem_of_getElem? (i := 27) rfl))) (mvT hZ (hw _ (List.mem_of_getElem? (i := 28) rfl))) (notFace_of_selects (args := #[]) (mvT hZ (hw _ (List.mem_of_getElem? (i := 30) rfl)))) (mvT hZ (hw _ (List.mem_of_getElem? (i := 30) rfl))) (mvT hZ (hw _ (List.mem_of_getElem? (i := 29) rfl))) (by decide) (backOf (W := 0) (rmA00 l Z a0 hw [] b139 bt146 b38 kb146 (0 : Int32) (0 : Int32) (0 : Int32) (0 : Int32) (0 : Int32) T146.heap n0 z152 Eo146 Ft146 Fs146 Ff146 Fi146 Vt146 ne_b139_bt146 g_b139 g_bt146) hZ (hw _ (List.mem_of_getElem? (i := 31) rfl)) (hw _ (List.mem_of_getElem? (i := 7) rfl)) (by decide) (by decide)) q190a q190c (g := (mkF m 284 #[.val (.int im), .val (.int ib), .val (.int i0), .val (.int i1), .val (.int i2), .val (.long ga), .second, .val (.int (3 : Int32)), .val (.int (0 : Int32)), .val (.int (1 : Int32)), .val (.ref b1), .val (.long (ib.toInt64)), .second, .val (.long f0), .second, .val (.long s1), .second, .val (.long f1), .second, .val (.long s2), .second, .val (.long f2), .second, .val (.ref b34), .val (.ref b38), .val (.ref b43), .val (.ref b139), .unset, .unset] [(.int (0 : Int32)), (.int (0 : Int32)), (.ref b139)])) rfl (by rw [hml]; rfl) (Steps.refl _) (argsL := [(.int (0 : Int32)), (.int (0 : Int32))]) (rest := []) (lenOf pd_3 rfl) rfl (by show 2 * 0 + _ ≤ _; exact Nat.le_of_eq rfl) (hb hby at_284) (fun _ _ => ⟨rfl, rfl, (by decide : 6 + 0 ≤ _), (by decide : 21 + 0 ≤ _)⟩)
    dsimp only [Pt.U, Pt.locs, Pt.cells, Pt.slots] at X190 l190 y190 z190 st190 hQ190
    replace X190 := own_cast X190 l190 y190 z190
    obtain ⟨hv190, N190q, K190, Eo190, Ft190, Fs190, Ff190, Fi190, Vt190⟩ := hQ190
    rw [hv190] at st190
    have N190 := Fr.app N146 N190q
    have f191 := f147.keep K190 (ninS ne_b1_b139 (ninS ne_b1_bt146 nin0))
    have f192 := f148.keep K190 (ninS ne_b34_b139 (ninS ne_b34_bt146 nin0))
    have f193 := f149.keep K190 (ninS ne_b38_b139 (ninS ne_b38_bt146 nin0))
    have f194 := f150.keep K190 (ninS ne_b43_b139 (ninS ne_b43_bt146 nin0))
    have f195 := Eo146.keep K190
    have z196 := Nat.le_trans z152 K190.1
    have kp197 := Keep.trans kp153 K190 (allS (Or.inr sz_b139) (allS (Or.inr sz_bt146) all0))
    obtain ⟨cq198, kq198, q198a, q198b, q198c⟩ := isOf hZ rfl Eo190
    obtain ⟨_, _, ⟨T198, L198, k198, n198⟩, -, X198, ⟨Lc198, hQ198, l198, y198, z198⟩, st198⟩ := X190.virtualBack hx (y := (⟨"com/example/makespun/makespun/simulate/Timeline", "add", "(II)V"⟩ : MethodName)) (z := (⟨"com/example/makespun/makespun/simulate/Timeline", "add", "(II)V"⟩ : MethodName)) hown (mvT hZ (hw _ (List.mem_of_getElem? (i := 27) rfl))) (mvT hZ (hw _ (List.mem_of_getElem? (i := 28) rfl))) (notFace_of_selects (args := #[]) (mvT hZ (hw _ (List.mem_of_getElem? (i := 30) rfl)))) (mvT hZ (hw _ (List.mem_of_getElem? (i := 30) rfl))) (mvT hZ (hw _ (List.mem_of_getElem? (i := 29) rfl))) (by decide) (backOf (W := 0) (rmA01 l Z a0 hw [] b139 bt146 b38 kb146 (1 : Int32) (0 : Int32) (0 : Int32) (0 : Int32) (0 : Int32) T190.heap n0 z196 Eo190 Ft190 Fs190 Ff190 Fi190 Vt190 ne_b139_bt146 g_b139 g_bt146) hZ (hw _ (List.mem_of_getElem? (i := 31) rfl)) (hw _ (List.mem_of_getElem? (i := 7) rfl)) (by decide) (by decide)) q198a q198c (g := (mkF m 306 #[.val (.int im), .val (.int ib), .val (.int i0), .val (.int i1), .val (.int i2), .val (.long ga), .second, .val (.int (3 : Int32)), .val (.int (0 : Int32)), .val (.int (1 : Int32)), .val (.ref b1), .val (.long (ib.toInt64)), .second, .val (.long f0), .second, .val (.long s1), .second, .val (.long f1), .second, .val (.long s2), .second, .val (.long f2), .second, .val (.ref b34), .val (.ref b38), .val (.ref b43), .val (.ref b139), .unset, .unset] [(.int (1 : Int32)), (.int (0 : Int32)), (.ref b139)])) rfl (by rw [hml]; rfl) (Steps.refl _) (argsL := [(.int (0 : Int32)), (.int (1 : Int32))]) (rest := []) (lenOf pd_3 rfl) rfl (by show 2 * 0 + _ ≤ _; exact Nat.le_of_eq rfl) (hb hby at_306) (fun _ _ => ⟨rfl, rfl, (by decide : 6 + 0 ≤ _), (by decide : 21 + 0 ≤ _)⟩)
    dsimp only [Pt.U, Pt.locs, Pt.cells, Pt.slots] at X198 l198 y198 z198 st198 hQ198
    replace X198 := own_cast X198 l198 y198 z198
    obtain ⟨hv198, N198q, K198, Eo198, Ft198, Fs198, Ff198, Fi198, Vt198⟩ := hQ198
    rw [hv198] at st198
    have N198 := Fr.app N190 N198q
    have f199 := f191.keep K198 (ninS ne_b1_b139 (ninS ne_b1_bt146 nin0))
    have f200 := f192.keep K198 (ninS ne_b34_b139 (ninS ne_b34_bt146 nin0))
    have f201 := f193.keep K198 (ninS ne_b38_b139 (ninS ne_b38_bt146 nin0))
    have f202 := f194.keep K198 (ninS ne_b43_b139 (ninS ne_b43_bt146 nin0))
    have f203 := Eo190.keep K198
    have z204 := Nat.le_trans z196 K198.1
    have kp205 := Keep.trans kp197 K198 (allS (Or.inr sz_b139) (allS (Or.inr sz_bt146) all0))
    obtain ⟨cq206, kq206, q206a, q206b, q206c⟩ := isOf hZ rfl Eo198
    obtain ⟨_, _, ⟨T206, L206, k206, n206⟩, -, X206, ⟨Lc206, hQ206, l206, y206, z206⟩, st206⟩ := X198.virtualBack hx (y := (⟨"com/example/makespun/makespun/simulate/Timeline", "add", "(II)V"⟩ : MethodName)) (z := (⟨"com/example/makespun/makespun/simulate/Timeline", "add", "(II)V"⟩ : MethodName)) hown (mvT hZ (hw _ (List.mem_of_getElem? (i := 27) rfl))) (mvT hZ (hw _ (List.mem_of_getElem? (i := 28) rfl))) (notFace_of_selects (args := #[]) (mvT hZ (hw _ (List.mem_of_getElem? (i := 30) rfl)))) (mvT hZ (hw _ (List.mem_of_getElem? (i := 30) rfl))) (mvT hZ (hw _ (List.mem_of_getElem? (i := 29) rfl))) (by decide) (backOf (W := 0) (rmA22 l Z a0 hw [] b139 bt146 b38 kb146 (2 : Int32) (1 : Int32) (0 : Int32) (0 : Int32) (0 : Int32) T198.heap n0 z204 Eo198 Ft198 Fs198 Ff198 Fi198 Vt198 ne_b139_bt146 g_b139 g_bt146) hZ (hw _ (List.mem_of_getElem? (i := 31) rfl)) (hw _ (List.mem_of_getElem? (i := 7) rfl)) (by decide) (by decide)) q206a q206c (g := (mkF m 328 #[.val (.int im), .val (.int ib), .val (.int i0), .val (.int i1), .val (.int i2), .val (.long ga), .second, .val (.int (3 : Int32)), .val (.int (0 : Int32)), .val (.int (1 : Int32)), .val (.ref b1), .val (.long (ib.toInt64)), .second, .val (.long f0), .second, .val (.long s1), .second, .val (.long f1), .second, .val (.long s2), .second, .val (.long f2), .second, .val (.ref b34), .val (.ref b38), .val (.ref b43), .val (.ref b139), .unset, .unset] [(.int (2 : Int32)), (.int (2 : Int32)), (.ref b139)])) rfl (by rw [hml]; rfl) (Steps.refl _) (argsL := [(.int (2 : Int32)), (.int (2 : Int32))]) (rest := []) (lenOf pd_3 rfl) rfl (by show 2 * 0 + _ ≤ _; exact Nat.le_of_eq rfl) (hb hby at_328) (fun _ _ => ⟨rfl, rfl, (by decide : 6 + 0 ≤ _), (by decide : 21 + 0 ≤ _)⟩)
    dsimp only [Pt.U, Pt.locs, Pt.cells, Pt.slots] at X206 l206 y206 z206 st206 hQ206
    replace X206 := own_cast X206 l206 y206 z206
    obtain ⟨hv206, N206q, K206, Eo206, Ft206, Fs206, Ff206, Fi206, Vt206⟩ := hQ206
    rw [hv206] at st206
    have N206 := Fr.app N198 N206q
    have f207 := f199.keep K206 (ninS ne_b1_b139 (ninS ne_b1_bt146 nin0))
    have f208 := f200.keep K206 (ninS ne_b34_b139 (ninS ne_b34_bt146 nin0))
    have f209 := f201.keep K206 (ninS ne_b38_b139 (ninS ne_b38_bt146 nin0))
    have f210 := f202.keep K206 (ninS ne_b43_b139 (ninS ne_b43_bt146 nin0))
    have f211 := Eo198.keep K206
    have z212 := Nat.le_trans z204 K206.1
    have kp213 := Keep.trans kp205 K206 (allS (Or.inr sz_b139) (allS (Or.inr sz_bt146) all0))
    obtain ⟨clq214, Arq214, cq214, Sq214, nq214, Hq214, Gq214⟩ := id f210
    have hiq214 : ¬ ((0 : Int32) < 0 ∨ clq214.slots.size ≤ ((0 : Int32)).toNatClampNeg) := inb_of Sq214 ⟨by decide, by decide⟩
    have haq214 : clq214.slots[((0 : Int32)).toNatClampNeg]? = some (.long f1) := Hq214.at hiq214 rfl
    obtain ⟨clq215, Arq215, cq215, Sq215, nq215, Hq215, Gq215⟩ := id f210
    have hiq215 : ¬ ((1 : Int32) < 0 ∨ clq215.slots.size ≤ ((1 : Int32)).toNatClampNeg) := inb_of Sq215 ⟨by decide, by decide⟩
    have haq215 : clq215.slots[((1 : Int32)).toNatClampNeg]? = some (.long f0) := Hq215.at hiq215 rfl
    obtain ⟨_, _, ⟨T216, L216, k216, n216⟩, -, X216, ⟨Lc216, hQ216, l216, y216, z216⟩, st216⟩ := Jvm.LawKit.callS X206 hx (y := (⟨"java/lang/Math", "max", "(JJ)J"⟩ : MethodName)) hown (mvT hZ (hw _ (List.mem_of_getElem? (i := 38) rfl))) (mvT hZ (hw _ (List.mem_of_getElem? (i := 39) rfl))) (mvT hZ (hw _ (List.mem_of_getElem? (i := 40) rfl))) (mvT hZ (hw _ (List.mem_of_getElem? (i := 41) rfl))) (by decide) (backOf (W := 0) (rmX l Z a0 hw [] f1 f0 T206.heap n0 z212) hZ (hw _ (List.mem_of_getElem? (i := 41) rfl)) (hw _ (List.mem_of_getElem? (i := 40) rfl)) (by decide) (by decide)) (g := (mkF m 358 #[.val (.int im), .val (.int ib), .val (.int i0), .val (.int i1), .val (.int i2), .val (.long ga), .second, .val (.int (3 : Int32)), .val (.int (0 : Int32)), .val (.int (1 : Int32)), .val (.ref b1), .val (.long (ib.toInt64)), .second, .val (.long f0), .second, .val (.long s1), .second, .val (.long f1), .second, .val (.long s2), .second, .val (.long f2), .second, .val (.ref b34), .val (.ref b38), .val (.ref b43), .val (.ref b139), .val (.long f1), .second] [(.long f0), (.long f1)])) rfl (by rw [hml]; rfl) (argsL := [(.long f1), (.long f0)]) (rest := []) (lenOf pd_4 rfl) rfl (by show 2 * 0 + _ ≤ _; exact Nat.le_of_eq rfl) (hb hby at_358) (fun _ _ => ⟨rfl, rfl, (by decide : 6 + 0 ≤ _), (by decide : 21 + 0 ≤ _)⟩)
    dsimp only [Pt.U, Pt.locs, Pt.cells, Pt.slots] at X216 l216 y216 z216 st216 hQ216
    replace X216 := own_cast X216 l216 y216 z216
    obtain ⟨hv216, N216q, e216⟩ := hQ216
    rw [hv216] at st216
    have N216 := Fr.app N206 N216q
    obtain ⟨clq217, Arq217, cq217, Sq217, nq217, Hq217, Gq217⟩ := id f210
    have hiq217 : ¬ ((2 : Int32) < 0 ∨ clq217.slots.size ≤ ((2 : Int32)).toNatClampNeg) := inb_of Sq217 ⟨by decide, by decide⟩
    have haq217 : clq217.slots[((2 : Int32)).toNatClampNeg]? = some (.long f2) := Hq217.at hiq217 rfl
    obtain ⟨_, _, ⟨T218, L218, k218, n218⟩, -, X218, ⟨Lc218, hQ218, l218, y218, z218⟩, st218⟩ := Jvm.LawKit.callS X216 hx (y := (⟨"java/lang/Math", "max", "(JJ)J"⟩ : MethodName)) hown (mvT hZ (hw _ (List.mem_of_getElem? (i := 38) rfl))) (mvT hZ (hw _ (List.mem_of_getElem? (i := 39) rfl))) (mvT hZ (hw _ (List.mem_of_getElem? (i := 40) rfl))) (mvT hZ (hw _ (List.mem_of_getElem? (i := 41) rfl))) (by decide) (backOf (W := 0) (rmX l Z a0 hw [] (own_max f1 f0) f2 T206.heap n0 z212) hZ (hw _ (List.mem_of_getElem? (i := 41) rfl)) (hw _ (List.mem_of_getElem? (i := 40) rfl)) (by decide) (by decide)) (g := (mkF m 375 #[.val (.int im), .val (.int ib), .val (.int i0), .val (.int i1), .val (.int i2), .val (.long ga), .second, .val (.int (3 : Int32)), .val (.int (0 : Int32)), .val (.int (1 : Int32)), .val (.ref b1), .val (.long (ib.toInt64)), .second, .val (.long f0), .second, .val (.long s1), .second, .val (.long f1), .second, .val (.long s2), .second, .val (.long f2), .second, .val (.ref b34), .val (.ref b38), .val (.ref b43), .val (.ref b139), .val (.long (own_max f1 f0)), .second] [(.long f2), (.long (own_max f1 f0))])) rfl (by rw [hml]; rfl) (argsL := [(.long (own_max f1 f0)), (.long f2)]) (rest := []) (lenOf pd_4 rfl) rfl (by show 2 * 0 + _ ≤ _; exact Nat.le_of_eq rfl) (hb hby at_375) (fun _ _ => ⟨rfl, e216, (by decide : 6 + 0 ≤ _), (by decide : 21 + 0 ≤ _)⟩)
    dsimp only [Pt.U, Pt.locs, Pt.cells, Pt.slots] at X218 l218 y218 z218 st218 hQ218
    replace X218 := own_cast X218 l218 y218 z218
    obtain ⟨hv218, N218q, e218⟩ := hQ218
    rw [hv218] at st218
    have N218 := Fr.app N216 N218q
    obtain ⟨cq219, kq219, q219a, q219b, q219c⟩ := isOf hZ e218 Eo206
    obtain ⟨_, _, ⟨T219, L219, k219, n219⟩, -, X219, ⟨Lc219, hQ219, l219, y219, z219⟩, st219⟩ := X218.virtualBack hx (y := (⟨"com/example/makespun/makespun/simulate/Timeline", "freeAt", "()D"⟩ : MethodName)) (z := (⟨"com/example/makespun/makespun/simulate/Timeline", "freeAt", "()D"⟩ : MethodName)) hown (mvT hZ (hw _ (List.mem_of_getElem? (i := 20) rfl))) (mvT hZ (hw _ (List.mem_of_getElem? (i := 21) rfl))) (notFace_of_selects (args := #[]) (mvT hZ (hw _ (List.mem_of_getElem? (i := 23) rfl)))) (mvT hZ (hw _ (List.mem_of_getElem? (i := 23) rfl))) (mvT hZ (hw _ (List.mem_of_getElem? (i := 22) rfl))) (by decide) (backOf (W := 0) (rmF32 l Z a0 hw [] b139 bt146 b38 kb146 k38 (1 : Int32) (0 : Int32) (0 : Int32) (FP.l2d f1) (FP.l2d f0) (FP.l2d f2) T206.heap n0 z212 Ft206 Fs206 Ff206 Vt206 f209) hZ (hw _ (List.mem_of_getElem? (i := 24) rfl)) (hw _ (List.mem_of_getElem? (i := 7) rfl)) (by decide) (by decide)) q219a q219c (g := (mkF m 382 #[.val (.int im), .val (.int ib), .val (.int i0), .val (.int i1), .val (.int i2), .val (.long ga), .second, .val (.int (3 : Int32)), .val (.int (0 : Int32)), .val (.int (1 : Int32)), .val (.ref b1), .val (.long (ib.toInt64)), .second, .val (.long f0), .second, .val (.long s1), .second, .val (.long f1), .second, .val (.long s2), .second, .val (.long f2), .second, .val (.ref b34), .val (.ref b38), .val (.ref b43), .val (.ref b139), .val (.long (own_max (own_max f1 f0) f2)), .second] [(.ref b139)])) rfl (by rw [hml]; rfl) (Steps.refl _) (argsL := []) (rest := []) (lenOf pd_2 rfl) rfl (by show 2 * 0 + _ ≤ _; exact Nat.le_of_eq rfl) (hb hby at_382) (fun _ _ => ⟨rfl, e218, (by decide : 6 + 0 ≤ _), (by decide : 21 + 0 ≤ _)⟩)
    dsimp only [Pt.U, Pt.locs, Pt.cells, Pt.slots] at X219 l219 y219 z219 st219 hQ219
    replace X219 := own_cast X219 l219 y219 z219
    obtain ⟨hv219, N219q, e219⟩ := hQ219
    rw [hv219] at st219
    have N219 := Fr.app N218 N219q
    obtain ⟨fs, hr, hrun, hended, hW, hsame⟩ := X219.leave (v := some (.int (1 : Int32))) (fun h => by rw [Bd.returns] at h; cases h)
    refine ⟨_, _, k189 _ ?_, hrun, hended, _, _, rfl, ?_, ⟨_, rfl⟩, hW, hsame.mono (by decide) (by decide)⟩
    · show Steps p.tables e below (T146.setTop (mkF m 274 #[.val (.int im), .val (.int ib), .val (.int i0), .val (.int i1), .val (.int i2), .val (.long ga), .second, .val (.int (3 : Int32)), .val (.int (0 : Int32)), .val (.int (1 : Int32)), .val (.ref b1), .val (.long (ib.toInt64)), .second, .val (.long f0), .second, .val (.long s1), .second, .val (.long f1), .second, .val (.long s2), .second, .val (.long f2), .second, .val (.ref b34), .val (.ref b38), .val (.ref b43), .val (.ref b139), .unset, .unset] [])) _
      refine XS.iload X146.here hx rfl (hb hby at_274) rfl ?_
      refine XS.iconst X146.here hx rfl (hb hby at_276) ?_
      show Steps p.tables e below (T146.setTop (mkF m 277 #[.val (.int im), .val (.int ib), .val (.int i0), .val (.int i1), .val (.int i2), .val (.long ga), .second, .val (.int (3 : Int32)), .val (.int (0 : Int32)), .val (.int (1 : Int32)), .val (.ref b1), .val (.long (ib.toInt64)), .second, .val (.long f0), .second, .val (.long s1), .second, .val (.long f1), .second, .val (.long s2), .second, .val (.long f2), .second, .val (.ref b34), .val (.ref b38), .val (.ref b43), .val (.ref b139), .unset, .unset] [(.int (1 : Int32)), (.int (3 : Int32))])) _
      refine XS.icmpNo X146.here hx rfl (hb hby at_277) rfl (flt (by decide : ¬ ((3 : Int32) < (1 : Int32)))).1 ?_
      refine XS.aload X146.here hx rfl (hb hby at_280) rfl rfl ?_
      refine XS.iconst X146.here hx rfl (hb hby at_282) ?_
      refine XS.iconst X146.here hx rfl (hb hby at_283) ?_
      refine st190.trans ?_
      show Steps p.tables e below (T190.setTop (mkF m 287 #[.val (.int im), .val (.int ib), .val (.int i0), .val (.int i1), .val (.int i2), .val (.long ga), .second, .val (.int (3 : Int32)), .val (.int (0 : Int32)), .val (.int (1 : Int32)), .val (.ref b1), .val (.long (ib.toInt64)), .second, .val (.long f0), .second, .val (.long s1), .second, .val (.long f1), .second, .val (.long s2), .second, .val (.long f2), .second, .val (.ref b34), .val (.ref b38), .val (.ref b43), .val (.ref b139), .unset, .unset] [])) _
      refine XS.iload X190.here hx rfl (hb hby at_287) rfl ?_
      refine XS.iconst X190.here hx rfl (hb hby at_289) ?_
      show Steps p.tables e below (T190.setTop (mkF m 290 #[.val (.int im), .val (.int ib), .val (.int i0), .val (.int i1), .val (.int i2), .val (.long ga), .second, .val (.int (3 : Int32)), .val (.int (0 : Int32)), .val (.int (1 : Int32)), .val (.ref b1), .val (.long (ib.toInt64)), .second, .val (.long f0), .second, .val (.long s1), .second, .val (.long f1), .second, .val (.long s2), .second, .val (.long f2), .second, .val (.ref b34), .val (.ref b38), .val (.ref b43), .val (.ref b139), .unset, .unset] [(.int (2 : Int32)), (.int (3 : Int32))])) _
      refine XS.icmpNo X190.here hx rfl (hb hby at_290) rfl (flt (by decide : ¬ ((3 : Int32) < (2 : Int32)))).1 ?_
      refine XS.aload X190.here hx rfl (hb hby at_293) rfl rfl ?_
      refine XS.iload X190.here hx rfl (hb hby at_295) rfl ?_
      show Steps p.tables e below (T190.setTop (mkF m 297 #[.val (.int im), .val (.int ib), .val (.int i0), .val (.int i1), .val (.int i2), .val (.long ga), .second, .val (.int (3 : Int32)), .val (.int (0 : Int32)), .val (.int (1 : Int32)), .val (.ref b1), .val (.long (ib.toInt64)), .second, .val (.long f0), .second, .val (.long s1), .second, .val (.long f1), .second, .val (.long s2), .second, .val (.long f2), .second, .val (.ref b34), .val (.ref b38), .val (.ref b43), .val (.ref b139), .unset, .unset] [(.int (0 : Int32)), (.ref b139)])) _
      refine XS.ifYes X190.here hx rfl (pc0 := 297) (pc' := 304) rfl (hb hby at_297) rfl ((if0 _ _).trans (teq (by decide : ((0 : Int32) = (0 : Int32)))).1) (by decide) (by decide) ?_
      refine XS.iconst X190.here hx rfl (hb hby at_304) ?_
      refine XS.iconst X190.here hx rfl (hb hby at_305) ?_
      show Steps p.tables e below (T190.setTop (mkF m 306 #[.val (.int im), .val (.int ib), .val (.int i0), .val (.int i1), .val (.int i2), .val (.long ga), .second, .val (.int (3 : Int32)), .val (.int (0 : Int32)), .val (.int (1 : Int32)), .val (.ref b1), .val (.long (ib.toInt64)), .second, .val (.long f0), .second, .val (.long s1), .second, .val (.long f1), .second, .val (.long s2), .second, .val (.long f2), .second, .val (.ref b34), .val (.ref b38), .val (.ref b43), .val (.ref b139), .unset, .unset] [(.int (1 : Int32)), (.int (0 : Int32)), (.ref b139)])) _
      refine st198.trans ?_
      refine XS.iload X198.here hx rfl (hb hby at_309) rfl ?_
      refine XS.iconst X198.here hx rfl (hb hby at_311) ?_
      show Steps p.tables e below (T198.setTop (mkF m 312 #[.val (.int im), .val (.int ib), .val (.int i0), .val (.int i1), .val (.int i2), .val (.long ga), .second, .val (.int (3 : Int32)), .val (.int (0 : Int32)), .val (.int (1 : Int32)), .val (.ref b1), .val (.long (ib.toInt64)), .second, .val (.long f0), .second, .val (.long s1), .second, .val (.long f1), .second, .val (.long s2), .second, .val (.long f2), .second, .val (.ref b34), .val (.ref b38), .val (.ref b43), .val (.ref b139), .unset, .unset] [(.int (3 : Int32)), (.int (3 : Int32))])) _
      refine XS.icmpNo X198.here hx rfl (hb hby at_312) rfl (teq (by decide : ((3 : Int32) = (3 : Int32)))).2 ?_
      refine XS.aload X198.here hx rfl (hb hby at_315) rfl rfl ?_
      refine XS.iload X198.here hx rfl (hb hby at_317) rfl ?_
      show Steps p.tables e below (T198.setTop (mkF m 319 #[.val (.int im), .val (.int ib), .val (.int i0), .val (.int i1), .val (.int i2), .val (.long ga), .second, .val (.int (3 : Int32)), .val (.int (0 : Int32)), .val (.int (1 : Int32)), .val (.ref b1), .val (.long (ib.toInt64)), .second, .val (.long f0), .second, .val (.long s1), .second, .val (.long f1), .second, .val (.long s2), .second, .val (.long f2), .second, .val (.ref b34), .val (.ref b38), .val (.ref b43), .val (.ref b139), .unset, .unset] [(.int (1 : Int32)), (.ref b139)])) _
      refine XS.ifNo X198.here hx rfl (hb hby at_319) rfl ((if0 _ _).trans (feq (by decide : ¬ ((1 : Int32) = (0 : Int32)))).1) ?_
      refine XS.iconst X198.here hx rfl (hb hby at_322) ?_
      show Steps p.tables e below (T198.setTop (mkF m 323 #[.val (.int im), .val (.int ib), .val (.int i0), .val (.int i1), .val (.int i2), .val (.long ga), .second, .val (.int (3 : Int32)), .val (.int (0 : Int32)), .val (.int (1 : Int32)), .val (.ref b1), .val (.long (ib.toInt64)), .second, .val (.long f0), .second, .val (.long s1), .second, .val (.long f1), .second, .val (.long s2), .second, .val (.long f2), .second, .val (.ref b34), .val (.ref b38), .val (.ref b43), .val (.ref b139), .unset, .unset] [(.int (2 : Int32)), (.ref b139)])) _
      refine XS.goto X198.here hx rfl (pc0 := 323) (pc' := 327) rfl (hb hby at_323) (by decide) (by decide) ?_
      refine XS.iconst X198.here hx rfl (hb hby at_327) ?_
      refine st206.trans ?_
      refine XS.lconst X206.here hx rfl (hb hby at_331) ?_
      refine XS.lstore X206.here hx rfl (hb hby at_332) rfl (l' := #[.val (.int im), .val (.int ib), .val (.int i0), .val (.int i1), .val (.int i2), .val (.long ga), .second, .val (.int (3 : Int32)), .val (.int (0 : Int32)), .val (.int (1 : Int32)), .val (.ref b1), .val (.long (ib.toInt64)), .second, .val (.long f0), .second, .val (.long s1), .second, .val (.long f1), .second, .val (.long s2), .second, .val (.long f2), .second, .val (.ref b34), .val (.ref b38), .val (.ref b43), .val (.ref b139), .val (.long (0 : Int64)), .second]) rfl ?_
      refine XS.iload X206.here hx rfl (hb hby at_334) rfl ?_
      show Steps p.tables e below (T206.setTop (mkF m 336 #[.val (.int im), .val (.int ib), .val (.int i0), .val (.int i1), .val (.int i2), .val (.long ga), .second, .val (.int (3 : Int32)), .val (.int (0 : Int32)), .val (.int (1 : Int32)), .val (.ref b1), .val (.long (ib.toInt64)), .second, .val (.long f0), .second, .val (.long s1), .second, .val (.long f1), .second, .val (.long s2), .second, .val (.long f2), .second, .val (.ref b34), .val (.ref b38), .val (.ref b43), .val (.ref b139), .val (.long (0 : Int64)), .second] [(.int (3 : Int32))])) _
      refine XS.iconst X206.here hx rfl (hb hby at_336) ?_
      show Steps p.tables e below (T206.setTop (mkF m 337 #[.val (.int im), .val (.int ib), .val (.int i0), .val (.int i1), .val (.int i2), .val (.long ga), .second, .val (.int (3 : Int32)), .val (.int (0 : Int32)), .val (.int (1 : Int32)), .val (.ref b1), .val (.long (ib.toInt64)), .second, .val (.long f0), .second, .val (.long s1), .second, .val (.long f1), .second, .val (.long s2), .second, .val (.long f2), .second, .val (.ref b34), .val (.ref b38), .val (.ref b43), .val (.ref b139), .val (.long (0 : Int64)), .second] [(.int (1 : Int32)), (.int (3 : Int32))])) _
      refine XS.icmpNo X206.here hx rfl (hb hby at_337) rfl (flt (by decide : ¬ ((3 : Int32) < (1 : Int32)))).1 ?_
      refine XS.aload X206.here hx rfl (hb hby at_340) rfl rfl ?_
      refine XS.iconst X206.here hx rfl (hb hby at_342) ?_
      refine X206.laload hx (j := (0 : Int32)) (v := (.long f1)) (by exact Arq214.1) (State.isArrayOf_alike hZ.alike Arq214.2.1) Arq214.2.2 hiq214 haq214 (g := (mkF m 343 #[.val (.int im), .val (.int ib), .val (.int i0), .val (.int i1), .val (.int i2), .val (.long ga), .second, .val (.int (3 : Int32)), .val (.int (0 : Int32)), .val (.int (1 : Int32)), .val (.ref b1), .val (.long (ib.toInt64)), .second, .val (.long f0), .second, .val (.long s1), .second, .val (.long f1), .second, .val (.long s2), .second, .val (.long f2), .second, .val (.ref b34), .val (.ref b38), .val (.ref b43), .val (.ref b139), .val (.long (0 : Int64)), .second] [(.int (0 : Int32)), (.ref b43)])) rfl rfl (hb hby at_343) _ ?_
      refine XS.lstore X206.here hx rfl (hb hby at_344) rfl (l' := #[.val (.int im), .val (.int ib), .val (.int i0), .val (.int i1), .val (.int i2), .val (.long ga), .second, .val (.int (3 : Int32)), .val (.int (0 : Int32)), .val (.int (1 : Int32)), .val (.ref b1), .val (.long (ib.toInt64)), .second, .val (.long f0), .second, .val (.long s1), .second, .val (.long f1), .second, .val (.long s2), .second, .val (.long f2), .second, .val (.ref b34), .val (.ref b38), .val (.ref b43), .val (.ref b139), .val (.long f1), .second]) rfl ?_
      refine XS.iload X206.here hx rfl (hb hby at_346) rfl ?_
      show Steps p.tables e below (T206.setTop (mkF m 348 #[.val (.int im), .val (.int ib), .val (.int i0), .val (.int i1), .val (.int i2), .val (.long ga), .second, .val (.int (3 : Int32)), .val (.int (0 : Int32)), .val (.int (1 : Int32)), .val (.ref b1), .val (.long (ib.toInt64)), .second, .val (.long f0), .second, .val (.long s1), .second, .val (.long f1), .second, .val (.long s2), .second, .val (.long f2), .second, .val (.ref b34), .val (.ref b38), .val (.ref b43), .val (.ref b139), .val (.long f1), .second] [(.int (3 : Int32))])) _
      refine XS.iconst X206.here hx rfl (hb hby at_348) ?_
      show Steps p.tables e below (T206.setTop (mkF m 349 #[.val (.int im), .val (.int ib), .val (.int i0), .val (.int i1), .val (.int i2), .val (.long ga), .second, .val (.int (3 : Int32)), .val (.int (0 : Int32)), .val (.int (1 : Int32)), .val (.ref b1), .val (.long (ib.toInt64)), .second, .val (.long f0), .second, .val (.long s1), .second, .val (.long f1), .second, .val (.long s2), .second, .val (.long f2), .second, .val (.ref b34), .val (.ref b38), .val (.ref b43), .val (.ref b139), .val (.long f1), .second] [(.int (2 : Int32)), (.int (3 : Int32))])) _
      refine XS.icmpNo X206.here hx rfl (hb hby at_349) rfl (flt (by decide : ¬ ((3 : Int32) < (2 : Int32)))).1 ?_
      refine XS.lload X206.here hx rfl (hb hby at_352) rfl ?_
      refine XS.aload X206.here hx rfl (hb hby at_354) rfl rfl ?_
      refine XS.iconst X206.here hx rfl (hb hby at_356) ?_
      refine X206.laload hx (j := (1 : Int32)) (v := (.long f0)) (by exact Arq215.1) (State.isArrayOf_alike hZ.alike Arq215.2.1) Arq215.2.2 hiq215 haq215 (g := (mkF m 357 #[.val (.int im), .val (.int ib), .val (.int i0), .val (.int i1), .val (.int i2), .val (.long ga), .second, .val (.int (3 : Int32)), .val (.int (0 : Int32)), .val (.int (1 : Int32)), .val (.ref b1), .val (.long (ib.toInt64)), .second, .val (.long f0), .second, .val (.long s1), .second, .val (.long f1), .second, .val (.long s2), .second, .val (.long f2), .second, .val (.ref b34), .val (.ref b38), .val (.ref b43), .val (.ref b139), .val (.long f1), .second] [(.int (1 : Int32)), (.ref b43), (.long f1)])) rfl rfl (hb hby at_357) _ ?_
      refine st216 _ ?_
      show Steps p.tables e below (T216.setTop (mkF m 361 #[.val (.int im), .val (.int ib), .val (.int i0), .val (.int i1), .val (.int i2), .val (.long ga), .second, .val (.int (3 : Int32)), .val (.int (0 : Int32)), .val (.int (1 : Int32)), .val (.ref b1), .val (.long (ib.toInt64)), .second, .val (.long f0), .second, .val (.long s1), .second, .val (.long f1), .second, .val (.long s2), .second, .val (.long f2), .second, .val (.ref b34), .val (.ref b38), .val (.ref b43), .val (.ref b139), .val (.long f1), .second] [(.long (own_max f1 f0))])) _
      refine XS.lstore X216.here hx rfl (hb hby at_361) rfl (l' := #[.val (.int im), .val (.int ib), .val (.int i0), .val (.int i1), .val (.int i2), .val (.long ga), .second, .val (.int (3 : Int32)), .val (.int (0 : Int32)), .val (.int (1 : Int32)), .val (.ref b1), .val (.long (ib.toInt64)), .second, .val (.long f0), .second, .val (.long s1), .second, .val (.long f1), .second, .val (.long s2), .second, .val (.long f2), .second, .val (.ref b34), .val (.ref b38), .val (.ref b43), .val (.ref b139), .val (.long (own_max f1 f0)), .second]) rfl ?_
      refine XS.iload X216.here hx rfl (hb hby at_363) rfl ?_
      refine XS.iconst X216.here hx rfl (hb hby at_365) ?_
      show Steps p.tables e below (T216.setTop (mkF m 366 #[.val (.int im), .val (.int ib), .val (.int i0), .val (.int i1), .val (.int i2), .val (.long ga), .second, .val (.int (3 : Int32)), .val (.int (0 : Int32)), .val (.int (1 : Int32)), .val (.ref b1), .val (.long (ib.toInt64)), .second, .val (.long f0), .second, .val (.long s1), .second, .val (.long f1), .second, .val (.long s2), .second, .val (.long f2), .second, .val (.ref b34), .val (.ref b38), .val (.ref b43), .val (.ref b139), .val (.long (own_max f1 f0)), .second] [(.int (3 : Int32)), (.int (3 : Int32))])) _
      refine XS.icmpNo X216.here hx rfl (hb hby at_366) rfl (teq (by decide : ((3 : Int32) = (3 : Int32)))).2 ?_
      refine XS.lload X216.here hx rfl (hb hby at_369) rfl ?_
      refine XS.aload X216.here hx rfl (hb hby at_371) rfl rfl ?_
      refine XS.iconst X216.here hx rfl (hb hby at_373) ?_
      show Steps p.tables e below (T216.setTop (mkF m 374 #[.val (.int im), .val (.int ib), .val (.int i0), .val (.int i1), .val (.int i2), .val (.long ga), .second, .val (.int (3 : Int32)), .val (.int (0 : Int32)), .val (.int (1 : Int32)), .val (.ref b1), .val (.long (ib.toInt64)), .second, .val (.long f0), .second, .val (.long s1), .second, .val (.long f1), .second, .val (.long s2), .second, .val (.long f2), .second, .val (.ref b34), .val (.ref b38), .val (.ref b43), .val (.ref b139), .val (.long (own_max f1 f0)), .second] [(.int (2 : Int32)), (.ref b43), (.long (own_max f1 f0))])) _
      refine X216.laload hx (j := (2 : Int32)) (v := (.long f2)) (by rw [e216]; exact Arq217.1) (State.isArrayOf_alike hZ.alike Arq217.2.1) Arq217.2.2 hiq217 haq217 (g := (mkF m 374 #[.val (.int im), .val (.int ib), .val (.int i0), .val (.int i1), .val (.int i2), .val (.long ga), .second, .val (.int (3 : Int32)), .val (.int (0 : Int32)), .val (.int (1 : Int32)), .val (.ref b1), .val (.long (ib.toInt64)), .second, .val (.long f0), .second, .val (.long s1), .second, .val (.long f1), .second, .val (.long s2), .second, .val (.long f2), .second, .val (.ref b34), .val (.ref b38), .val (.ref b43), .val (.ref b139), .val (.long (own_max f1 f0)), .second] [(.int (2 : Int32)), (.ref b43), (.long (own_max f1 f0))])) rfl rfl (hb hby at_374) _ ?_
      refine st218 _ ?_
      refine XS.lstore X218.here hx rfl (hb hby at_378) rfl (l' := #[.val (.int im), .val (.int ib), .val (.int i0), .val (.int i1), .val (.int i2), .val (.long ga), .second, .val (.int (3 : Int32)), .val (.int (0 : Int32)), .val (.int (1 : Int32)), .val (.ref b1), .val (.long (ib.toInt64)), .second, .val (.long f0), .second, .val (.long s1), .second, .val (.long f1), .second, .val (.long s2), .second, .val (.long f2), .second, .val (.ref b34), .val (.ref b38), .val (.ref b43), .val (.ref b139), .val (.long (own_max (own_max f1 f0) f2)), .second]) rfl ?_
      refine XS.aload X218.here hx rfl (hb hby at_380) rfl rfl ?_
      refine st219.trans ?_
      refine XS.lload X219.here hx rfl (hb hby at_385) rfl ?_
      show Steps p.tables e below (T219.setTop (mkF m 387 #[.val (.int im), .val (.int ib), .val (.int i0), .val (.int i1), .val (.int i2), .val (.long ga), .second, .val (.int (3 : Int32)), .val (.int (0 : Int32)), .val (.int (1 : Int32)), .val (.ref b1), .val (.long (ib.toInt64)), .second, .val (.long f0), .second, .val (.long s1), .second, .val (.long f1), .second, .val (.long s2), .second, .val (.long f2), .second, .val (.ref b34), .val (.ref b38), .val (.ref b43), .val (.ref b139), .val (.long (own_max (own_max f1 f0) f2)), .second] [(.long (own_max (own_max f1 f0) f2)), (.double (FP.l2d f2))])) _
      refine XS.l2dS X219.here hx rfl (hb hby at_387) rfl rfl ?_
      show Steps p.tables e below (T219.setTop (mkF m 388 #[.val (.int im), .val (.int ib), .val (.int i0), .val (.int i1), .val (.int i2), .val (.long ga), .second, .val (.int (3 : Int32)), .val (.int (0 : Int32)), .val (.int (1 : Int32)), .val (.ref b1), .val (.long (ib.toInt64)), .second, .val (.long f0), .second, .val (.long s1), .second, .val (.long f1), .second, .val (.long s2), .second, .val (.long f2), .second, .val (.ref b34), .val (.ref b38), .val (.ref b43), .val (.ref b139), .val (.long (own_max (own_max f1 f0) f2)), .second] [(.double (FP.l2d (own_max (own_max f1 f0) f2))), (.double (FP.l2d f2))])) _
      refine XS.dcmpS X219.here hx rfl (hb hby at_388) rfl (v := (0 : Int32)) (own_cmp (show f2 = (own_max (own_max f1 f0) f2) from ((congrArg (fun z => own_max z f2) ((congrArg (fun z => own_max z f0) rfl).trans (own_max_l ho.1))).trans (own_max_r ho.2.1)).symm)) ?_
      show Steps p.tables e below (T219.setTop (mkF m 389 #[.val (.int im), .val (.int ib), .val (.int i0), .val (.int i1), .val (.int i2), .val (.long ga), .second, .val (.int (3 : Int32)), .val (.int (0 : Int32)), .val (.int (1 : Int32)), .val (.ref b1), .val (.long (ib.toInt64)), .second, .val (.long f0), .second, .val (.long s1), .second, .val (.long f1), .second, .val (.long s2), .second, .val (.long f2), .second, .val (.ref b34), .val (.ref b38), .val (.ref b43), .val (.ref b139), .val (.long (own_max (own_max f1 f0) f2)), .second] [(.int (0 : Int32))])) _
      refine XS.ifNo X219.here hx rfl (hb hby at_389) rfl ((if0 _ _).trans (teq (by decide : ((0 : Int32) = (0 : Int32)))).2) ?_
      refine XS.iconst X219.here hx rfl (hb hby at_392) ?_
      refine XS.goto X219.here hx rfl (pc0 := 393) (pc' := 397) rfl (hb hby at_393) (by decide) (by decide) ?_
      show Steps p.tables e below (T219.setTop (mkF m 397 #[.val (.int im), .val (.int ib), .val (.int i0), .val (.int i1), .val (.int i2), .val (.long ga), .second, .val (.int (3 : Int32)), .val (.int (0 : Int32)), .val (.int (1 : Int32)), .val (.ref b1), .val (.long (ib.toInt64)), .second, .val (.long f0), .second, .val (.long s1), .second, .val (.long f1), .second, .val (.long s2), .second, .val (.long f2), .second, .val (.ref b34), .val (.ref b38), .val (.ref b43), .val (.ref b139), .val (.long (own_max (own_max f1 f0) f2)), .second] [(.int (1 : Int32))])) _
      exact retN X219 hx (t := .boolean) Bd.returns (by simp) (hb hby at_397) hr
    · show own_Q0 Z im ib i0 i1 i2 ga h0 n0 _ T219.heap _
      rw [e219]
      exact ⟨rfl, N219⟩
set_option maxRecDepth 65536 in
set_option maxHeartbeats 40000000 in
theorem rm0_00 (l : Launch) (Z : State) (a0 : Array Value) (hw : ∀ d ∈ tables_1, d.before a0 Z = true) (ws : List Jvm.Cond) (im ib i0 i1 i2 : Int32) (ga : Int64) (h0 : Heap) (n0 : Nat) (Z0 : n0 ≤ h0.size) (he1 : (im &&& (4 : Int32)) = (0 : Int32)) (he2 : (im &&& (8 : Int32)) = (0 : Int32)) :
    MetFree l x (head1 (Jvm.Cond.code x code maxLocals ret :: ws) room_1) (fun a U => a = #[(.int im), (.int ib), (.int i0), (.int i1), (.int i2), (.long ga)] ∧ Z.Warmed39 U.vm ∧ U.heap = h0) (fun _ _ _ _ _ => True) (fun _ U o U' => ∃ v L, o = .returned v ∧ own_Q0 Z im ib i0 i1 i2 ga h0 n0 v U'.heap L ∧ FrameEnd U o U' L room_1.cells room_1.slots) := by
  refine MetFree.of_bodySF (plainFor_of_name pn_0) hisR ?_
  intro p e s m args below meth c s₁ Bd hml0 hP hK
  obtain ⟨rfl, hZ, hh⟩ := hP
  have hx := Bd.exec
  have hby := Bd.bytes
  have hml : c.maxLocals = 29 := hml0
  have hown : s.vm.findClass "com/example/makespun/makespun/simulate/TimelineFreeAtPinLaw" = some m.cls := findClass_of_methodNamed Bd.named
  have hnm := (name_of_methodNamed Bd.named Bd.method).1
  have X0 : Stand p l e room_1 s m #[(.int im), (.int ib), (.int i0), (.int i1), (.int i2), (.long ga)] below meth c s₁ [] 0 0 := Stand.of_body Bd
  have e0 : s₁.heap = h0 := by rw [← hh, Bd.state]; rfl
  have N0 := Fr.nil n0
  have pre0 : ∀ tq, Steps p.tables e below (s₁.setTop (mkF m 0 #[.val (.int im), .val (.int ib), .val (.int i0), .val (.int i1), .val (.int i2), .val (.long ga), .second, .unset, .unset, .unset, .unset, .unset, .unset, .unset, .unset, .unset, .unset, .unset, .unset, .unset, .unset, .unset, .unset, .unset, .unset, .unset, .unset, .unset, .unset] [])) tq → Steps p.tables e below (s₁.setTop (entryFrame m #[(.int im), (.int ib), (.int i0), (.int i1), (.int i2), (.long ga)] maxLocals)) tq := fun tq k => castTop (ef_0 m im ib i0 i1 i2 ga) k
  obtain ⟨T1, h1, k1, X1, e1, E1, A1, st1⟩ := newP X0 hx hZ (hw _ (List.mem_of_getElem? (i := 0) rfl)) e0 (g := (mkF m 33 #[.val (.int im), .val (.int ib), .val (.int i0), .val (.int i1), .val (.int i2), .val (.long ga), .second, .val (.int (im &&& (3 : Int32))), .val (.int (0 : Int32)), .val (.int (0 : Int32)), .unset, .unset, .unset, .unset, .unset, .unset, .unset, .unset, .unset, .unset, .unset, .unset, .unset, .unset, .unset, .unset, .unset, .unset, .unset] [(.int (3 : Int32))])) rfl (hb hby at_33) rfl (by decide) (cap := 3) (by decide) (by decide) (by decide) (by decide)
  obtain ⟨b1, g1⟩ : ∃ z, z = h0.size := ⟨_, rfl⟩
  rw [← g1] at A1 st1
  have g_b1 : n0 ≤ b1 := Nat.le_trans Z0 (Nat.le_of_eq g1.symm)
  have sz_b1 : h0.size ≤ b1 := Nat.le_trans (Keep.refl h0 []).1 (Nat.le_of_eq g1.symm)
  have z2 := Nat.le_trans Z0 E1.1
  have kp3 := (Keep.refl h0 []).ext E1
  have V_b1 : Arv Z h1 b1 k1 .int (3 : Int32) [(.int (0 : Int32)), (.int (0 : Int32)), (.int (0 : Int32))] (.int (0 : Int32)) := (Arv.new A1 (by decide)).pad (pad_rep [] (.int (0 : Int32)) 3)
  obtain ⟨clq4, Arq4, cq4, Sq4, nq4, Hq4, Gq4⟩ := id V_b1
  have hiq4 : ¬ ((0 : Int32) < 0 ∨ clq4.slots.size ≤ ((0 : Int32)).toNatClampNeg) := inb_of Sq4 ⟨by decide, by decide⟩
  obtain ⟨T5, h5, X5, e5, W5, st5⟩ := stI X1 hx hZ e1 Arq4 (j := (0 : Int32)) hiq4 (g := (mkF m 59 #[.val (.int im), .val (.int ib), .val (.int i0), .val (.int i1), .val (.int i2), .val (.long ga), .second, .val (.int (im &&& (3 : Int32))), .val (.int (0 : Int32)), .val (.int (0 : Int32)), .val (.ref b1), .unset, .unset, .unset, .unset, .unset, .unset, .unset, .unset, .unset, .unset, .unset, .unset, .unset, .unset, .unset, .unset, .unset, .unset] [(.int (1 : Int32)), (.int (0 : Int32)), (.ref b1)])) rfl rfl (hb hby at_59)
  have v6 : Arv Z h5 b1 k1 .int (3 : Int32) [(.int (1 : Int32)), (.int (0 : Int32)), (.int (0 : Int32))] (.int (0 : Int32)) := Arv.set Arq4 cq4 Sq4 nq4 Hq4 Gq4 rfl W5 0 rfl (Nat.le_of_ble_eq_true rfl)
  have kp7 := kp3.wr W5 (Or.inr sz_b1)
  have z8 := Nat.le_trans z2 (Keep.of_wr W5).1
  have N9 := Fr.snoc X5 N0 g_b1
  obtain ⟨clq10, Arq10, cq10, Sq10, nq10, Hq10, Gq10⟩ := id v6
  have hiq10 : ¬ ((1 : Int32) < 0 ∨ clq10.slots.size ≤ ((1 : Int32)).toNatClampNeg) := inb_of Sq10 ⟨by decide, by decide⟩
  obtain ⟨T11, h11, X11, e11, W11, st11⟩ := stI X5 hx hZ e5 Arq10 (j := (1 : Int32)) hiq10 (g := (mkF m 64 #[.val (.int im), .val (.int ib), .val (.int i0), .val (.int i1), .val (.int i2), .val (.long ga), .second, .val (.int (im &&& (3 : Int32))), .val (.int (0 : Int32)), .val (.int (0 : Int32)), .val (.ref b1), .unset, .unset, .unset, .unset, .unset, .unset, .unset, .unset, .unset, .unset, .unset, .unset, .unset, .unset, .unset, .unset, .unset, .unset] [(.int (0 : Int32)), (.int (1 : Int32)), (.ref b1)])) rfl rfl (hb hby at_64)
  have v12 : Arv Z h11 b1 k1 .int (3 : Int32) [(.int (1 : Int32)), (.int (0 : Int32)), (.int (0 : Int32))] (.int (0 : Int32)) := Arv.set Arq10 cq10 Sq10 nq10 Hq10 Gq10 rfl W11 1 rfl (Nat.le_of_ble_eq_true rfl)
  have kp13 := kp7.wr W11 (Or.inr sz_b1)
  have z14 := Nat.le_trans z8 (Keep.of_wr W11).1
  have N15 := Fr.snoc X11 N9 g_b1
  obtain ⟨clq16, Arq16, cq16, Sq16, nq16, Hq16, Gq16⟩ := id v12
  have hiq16 : ¬ ((1 : Int32) < 0 ∨ clq16.slots.size ≤ ((1 : Int32)).toNatClampNeg) := inb_of Sq16 ⟨by decide, by decide⟩
  have haq16 : clq16.slots[((1 : Int32)).toNatClampNeg]? = some (.int (0 : Int32)) := Hq16.at hiq16 rfl
  obtain ⟨clq17, Arq17, cq17, Sq17, nq17, Hq17, Gq17⟩ := id v12
  have hiq17 : ¬ ((2 : Int32) < 0 ∨ clq17.slots.size ≤ ((2 : Int32)).toNatClampNeg) := inb_of Sq17 ⟨by decide, by decide⟩
  obtain ⟨T18, h18, X18, e18, W18, st18⟩ := stI X11 hx hZ e11 Arq17 (j := (2 : Int32)) hiq17 (g := (mkF m 85 #[.val (.int im), .val (.int ib), .val (.int i0), .val (.int i1), .val (.int i2), .val (.long ga), .second, .val (.int (im &&& (3 : Int32))), .val (.int (0 : Int32)), .val (.int (0 : Int32)), .val (.ref b1), .unset, .unset, .unset, .unset, .unset, .unset, .unset, .unset, .unset, .unset, .unset, .unset, .unset, .unset, .unset, .unset, .unset, .unset] [(.int (0 : Int32)), (.int (2 : Int32)), (.ref b1)])) rfl rfl (hb hby at_85)
  have v19 : Arv Z h18 b1 k1 .int (3 : Int32) [(.int (1 : Int32)), (.int (0 : Int32)), (.int (0 : Int32))] (.int (0 : Int32)) := Arv.set Arq17 cq17 Sq17 nq17 Hq17 Gq17 rfl W18 2 rfl (Nat.le_of_ble_eq_true rfl)
  have kp20 := kp13.wr W18 (Or.inr sz_b1)
  have z21 := Nat.le_trans z14 (Keep.of_wr W18).1
  have N22 := Fr.snoc X18 N15 g_b1
  obtain ⟨clq23, Arq23, cq23, Sq23, nq23, Hq23, Gq23⟩ := id v19
  have hiq23 : ¬ ((0 : Int32) < 0 ∨ clq23.slots.size ≤ ((0 : Int32)).toNatClampNeg) := inb_of Sq23 ⟨by decide, by decide⟩
  have haq23 : clq23.slots[((0 : Int32)).toNatClampNeg]? = some (.int (1 : Int32)) := Hq23.at hiq23 rfl
  obtain ⟨clq24, Arq24, cq24, Sq24, nq24, Hq24, Gq24⟩ := id v19
  have hiq24 : ¬ ((1 : Int32) < 0 ∨ clq24.slots.size ≤ ((1 : Int32)).toNatClampNeg) := inb_of Sq24 ⟨by decide, by decide⟩
  obtain ⟨T25, h25, X25, e25, W25, st25⟩ := stI X18 hx hZ e18 Arq24 (j := (1 : Int32)) hiq24 (g := (mkF m 93 #[.val (.int im), .val (.int ib), .val (.int i0), .val (.int i1), .val (.int i2), .val (.long ga), .second, .val (.int (im &&& (3 : Int32))), .val (.int (0 : Int32)), .val (.int (0 : Int32)), .val (.ref b1), .unset, .unset, .unset, .unset, .unset, .unset, .unset, .unset, .unset, .unset, .unset, .unset, .unset, .unset, .unset, .unset, .unset, .unset] [(.int (1 : Int32)), (.int (1 : Int32)), (.ref b1)])) rfl rfl (hb hby at_93)
  have v26 : Arv Z h25 b1 k1 .int (3 : Int32) [(.int (1 : Int32)), (.int (1 : Int32)), (.int (0 : Int32))] (.int (0 : Int32)) := Arv.set Arq24 cq24 Sq24 nq24 Hq24 Gq24 rfl W25 1 rfl (Nat.le_of_ble_eq_true rfl)
  have kp27 := kp20.wr W25 (Or.inr sz_b1)
  have z28 := Nat.le_trans z21 (Keep.of_wr W25).1
  have N29 := Fr.snoc X25 N22 g_b1
  obtain ⟨clq30, Arq30, cq30, Sq30, nq30, Hq30, Gq30⟩ := id v26
  have hiq30 : ¬ ((0 : Int32) < 0 ∨ clq30.slots.size ≤ ((0 : Int32)).toNatClampNeg) := inb_of Sq30 ⟨by decide, by decide⟩
  obtain ⟨T31, h31, X31, e31, W31, st31⟩ := stI X25 hx hZ e25 Arq30 (j := (0 : Int32)) hiq30 (g := (mkF m 98 #[.val (.int im), .val (.int ib), .val (.int i0), .val (.int i1), .val (.int i2), .val (.long ga), .second, .val (.int (im &&& (3 : Int32))), .val (.int (0 : Int32)), .val (.int (0 : Int32)), .val (.ref b1), .unset, .unset, .unset, .unset, .unset, .unset, .unset, .unset, .unset, .unset, .unset, .unset, .unset, .unset, .unset, .unset, .unset, .unset] [(.int (2 : Int32)), (.int (0 : Int32)), (.ref b1)])) rfl rfl (hb hby at_98)
  have v32 : Arv Z h31 b1 k1 .int (3 : Int32) [(.int (2 : Int32)), (.int (1 : Int32)), (.int (0 : Int32))] (.int (0 : Int32)) := Arv.set Arq30 cq30 Sq30 nq30 Hq30 Gq30 rfl W31 0 rfl (Nat.le_of_ble_eq_true rfl)
  have kp33 := kp27.wr W31 (Or.inr sz_b1)
  have z34 := Nat.le_trans z28 (Keep.of_wr W31).1
  have N35 := Fr.snoc X31 N29 g_b1
  have k36 : ∀ tq, Steps p.tables e below (T31.setTop (mkF m 103 #[.val (.int im), .val (.int ib), .val (.int i0), .val (.int i1), .val (.int i2), .val (.long ga), .second, .val (.int (im &&& (3 : Int32))), .val (.int (0 : Int32)), .val (.int (0 : Int32)), .val (.ref b1), .val (.long (ib.toInt64)), .second, .unset, .unset, .unset, .unset, .unset, .unset, .unset, .unset, .unset, .unset, .unset, .unset, .unset, .unset, .unset, .unset] [])) tq → Steps p.tables e below (s₁.setTop (entryFrame m #[(.int im), (.int ib), (.int i0), (.int i1), (.int i2), (.long ga)] maxLocals)) tq := by
    intro tq kt
    refine pre0 tq ?_
    refine XS.iloadN X0.here hx rfl (hb hby at_0) rfl ?_
    refine XS.iconst X0.here hx rfl (hb hby at_1) ?_
    refine XS.iand X0.here hx rfl (hb hby at_2) rfl ?_
    refine XS.istore X0.here hx rfl (hb hby at_3) rfl (l' := #[.val (.int im), .val (.int ib), .val (.int i0), .val (.int i1), .val (.int i2), .val (.long ga), .second, .val (.int (im &&& (3 : Int32))), .unset, .unset, .unset, .unset, .unset, .unset, .unset, .unset, .unset, .unset, .unset, .unset, .unset, .unset, .unset, .unset, .unset, .unset, .unset, .unset, .unset]) rfl ?_
    refine XS.iloadN X0.here hx rfl (hb hby at_5) rfl ?_
    show Steps p.tables e below (s₁.setTop (mkF m 6 #[.val (.int im), .val (.int ib), .val (.int i0), .val (.int i1), .val (.int i2), .val (.long ga), .second, .val (.int (im &&& (3 : Int32))), .unset, .unset, .unset, .unset, .unset, .unset, .unset, .unset, .unset, .unset, .unset, .unset, .unset, .unset, .unset, .unset, .unset, .unset, .unset, .unset, .unset] [(.int im)])) _
    refine XS.iconst X0.here hx rfl (hb hby at_6) ?_
    refine XS.iand X0.here hx rfl (hb hby at_7) rfl ?_
    show Steps p.tables e below (s₁.setTop (mkF m 8 #[.val (.int im), .val (.int ib), .val (.int i0), .val (.int i1), .val (.int i2), .val (.long ga), .second, .val (.int (im &&& (3 : Int32))), .unset, .unset, .unset, .unset, .unset, .unset, .unset, .unset, .unset, .unset, .unset, .unset, .unset, .unset, .unset, .unset, .unset, .unset, .unset, .unset, .unset] [(.int (im &&& (4 : Int32)))])) _
    refine XS.ifYes X0.here hx rfl (pc0 := 8) (pc' := 15) rfl (hb hby at_8) rfl ((if0 _ _).trans (teq he1).1) (by decide) (by decide) ?_
    refine XS.iconst X0.here hx rfl (hb hby at_15) ?_
    refine XS.istore X0.here hx rfl (hb hby at_16) rfl (l' := #[.val (.int im), .val (.int ib), .val (.int i0), .val (.int i1), .val (.int i2), .val (.long ga), .second, .val (.int (im &&& (3 : Int32))), .val (.int (0 : Int32)), .unset, .unset, .unset, .unset, .unset, .unset, .unset, .unset, .unset, .unset, .unset, .unset, .unset, .unset, .unset, .unset, .unset, .unset, .unset, .unset]) rfl ?_
    refine XS.iloadN X0.here hx rfl (hb hby at_18) rfl ?_
    refine XS.bipush X0.here hx rfl (hb hby at_19) ?_
    show Steps p.tables e below (s₁.setTop (mkF m 21 #[.val (.int im), .val (.int ib), .val (.int i0), .val (.int i1), .val (.int i2), .val (.long ga), .second, .val (.int (im &&& (3 : Int32))), .val (.int (0 : Int32)), .unset, .unset, .unset, .unset, .unset, .unset, .unset, .unset, .unset, .unset, .unset, .unset, .unset, .unset, .unset, .unset, .unset, .unset, .unset, .unset] [(.int (8 : Int32)), (.int im)])) _
    refine XS.iand X0.here hx rfl (hb hby at_21) rfl ?_
    show Steps p.tables e below (s₁.setTop (mkF m 22 #[.val (.int im), .val (.int ib), .val (.int i0), .val (.int i1), .val (.int i2), .val (.long ga), .second, .val (.int (im &&& (3 : Int32))), .val (.int (0 : Int32)), .unset, .unset, .unset, .unset, .unset, .unset, .unset, .unset, .unset, .unset, .unset, .unset, .unset, .unset, .unset, .unset, .unset, .unset, .unset, .unset] [(.int (im &&& (8 : Int32)))])) _
    refine XS.ifYes X0.here hx rfl (pc0 := 22) (pc' := 29) rfl (hb hby at_22) rfl ((if0 _ _).trans (teq he2).1) (by decide) (by decide) ?_
    refine XS.iconst X0.here hx rfl (hb hby at_29) ?_
    refine XS.istore X0.here hx rfl (hb hby at_30) rfl (l' := #[.val (.int im), .val (.int ib), .val (.int i0), .val (.int i1), .val (.int i2), .val (.long ga), .second, .val (.int (im &&& (3 : Int32))), .val (.int (0 : Int32)), .val (.int (0 : Int32)), .unset, .unset, .unset, .unset, .unset, .unset, .unset, .unset, .unset, .unset, .unset, .unset, .unset, .unset, .unset, .unset, .unset, .unset, .unset]) rfl ?_
    refine XS.iconst X0.here hx rfl (hb hby at_32) ?_
    refine st1 _ ?_
    refine XS.astore X1.here hx rfl (hb hby at_35) rfl rfl (l' := #[.val (.int im), .val (.int ib), .val (.int i0), .val (.int i1), .val (.int i2), .val (.long ga), .second, .val (.int (im &&& (3 : Int32))), .val (.int (0 : Int32)), .val (.int (0 : Int32)), .val (.ref b1), .unset, .unset, .unset, .unset, .unset, .unset, .unset, .unset, .unset, .unset, .unset, .unset, .unset, .unset, .unset, .unset, .unset, .unset]) rfl ?_
    show Steps p.tables e below (T1.setTop (mkF m 37 #[.val (.int im), .val (.int ib), .val (.int i0), .val (.int i1), .val (.int i2), .val (.long ga), .second, .val (.int (im &&& (3 : Int32))), .val (.int (0 : Int32)), .val (.int (0 : Int32)), .val (.ref b1), .unset, .unset, .unset, .unset, .unset, .unset, .unset, .unset, .unset, .unset, .unset, .unset, .unset, .unset, .unset, .unset, .unset, .unset] [])) _
    refine XS.iload X1.here hx rfl (hb hby at_37) rfl ?_
    show Steps p.tables e below (T1.setTop (mkF m 39 #[.val (.int im), .val (.int ib), .val (.int i0), .val (.int i1), .val (.int i2), .val (.long ga), .second, .val (.int (im &&& (3 : Int32))), .val (.int (0 : Int32)), .val (.int (0 : Int32)), .val (.ref b1), .unset, .unset, .unset, .unset, .unset, .unset, .unset, .unset, .unset, .unset, .unset, .unset, .unset, .unset, .unset, .unset, .unset, .unset] [(.int (0 : Int32))])) _
    refine XS.ifYes X1.here hx rfl (pc0 := 39) (pc' := 55) rfl (hb hby at_39) rfl ((if0 _ _).trans (teq (by decide : ((0 : Int32) = (0 : Int32)))).1) (by decide) (by decide) ?_
    refine XS.aload X1.here hx rfl (hb hby at_55) rfl rfl ?_
    refine XS.iconst X1.here hx rfl (hb hby at_57) ?_
    refine XS.iconst X1.here hx rfl (hb hby at_58) ?_
    refine st5 _ ?_
    refine XS.aload X5.here hx rfl (hb hby at_60) rfl rfl ?_
    show Steps p.tables e below (T5.setTop (mkF m 62 #[.val (.int im), .val (.int ib), .val (.int i0), .val (.int i1), .val (.int i2), .val (.long ga), .second, .val (.int (im &&& (3 : Int32))), .val (.int (0 : Int32)), .val (.int (0 : Int32)), .val (.ref b1), .unset, .unset, .unset, .unset, .unset, .unset, .unset, .unset, .unset, .unset, .unset, .unset, .unset, .unset, .unset, .unset, .unset, .unset] [(.ref b1)])) _
    refine XS.iconst X5.here hx rfl (hb hby at_62) ?_
    refine XS.iconst X5.here hx rfl (hb hby at_63) ?_
    refine st11 _ ?_
    refine XS.iload X11.here hx rfl (hb hby at_65) rfl ?_
    show Steps p.tables e below (T11.setTop (mkF m 67 #[.val (.int im), .val (.int ib), .val (.int i0), .val (.int i1), .val (.int i2), .val (.long ga), .second, .val (.int (im &&& (3 : Int32))), .val (.int (0 : Int32)), .val (.int (0 : Int32)), .val (.ref b1), .unset, .unset, .unset, .unset, .unset, .unset, .unset, .unset, .unset, .unset, .unset, .unset, .unset, .unset, .unset, .unset, .unset, .unset] [(.int (0 : Int32))])) _
    refine XS.ifYes X11.here hx rfl (pc0 := 67) (pc' := 78) rfl (hb hby at_67) rfl ((if0 _ _).trans (teq (by decide : ((0 : Int32) = (0 : Int32)))).1) (by decide) (by decide) ?_
    refine XS.aload X11.here hx rfl (hb hby at_78) rfl rfl ?_
    refine XS.iconst X11.here hx rfl (hb hby at_80) ?_
    show Steps p.tables e below (T11.setTop (mkF m 81 #[.val (.int im), .val (.int ib), .val (.int i0), .val (.int i1), .val (.int i2), .val (.long ga), .second, .val (.int (im &&& (3 : Int32))), .val (.int (0 : Int32)), .val (.int (0 : Int32)), .val (.ref b1), .unset, .unset, .unset, .unset, .unset, .unset, .unset, .unset, .unset, .unset, .unset, .unset, .unset, .unset, .unset, .unset, .unset, .unset] [(.int (2 : Int32)), (.ref b1)])) _
    refine XS.aload X11.here hx rfl (hb hby at_81) rfl rfl ?_
    refine XS.iconst X11.here hx rfl (hb hby at_83) ?_
    refine X11.iaload hx (j := (1 : Int32)) (v := (.int (0 : Int32))) (by rw [e11]; exact Arq16.1) (State.isArrayOf_alike hZ.alike Arq16.2.1) Arq16.2.2 hiq16 haq16 (g := (mkF m 84 #[.val (.int im), .val (.int ib), .val (.int i0), .val (.int i1), .val (.int i2), .val (.long ga), .second, .val (.int (im &&& (3 : Int32))), .val (.int (0 : Int32)), .val (.int (0 : Int32)), .val (.ref b1), .unset, .unset, .unset, .unset, .unset, .unset, .unset, .unset, .unset, .unset, .unset, .unset, .unset, .unset, .unset, .unset, .unset, .unset] [(.int (1 : Int32)), (.ref b1), (.int (2 : Int32)), (.ref b1)])) rfl rfl (hb hby at_84) _ ?_
    refine st18 _ ?_
    refine XS.aload X18.here hx rfl (hb hby at_86) rfl rfl ?_
    refine XS.iconst X18.here hx rfl (hb hby at_88) ?_
    show Steps p.tables e below (T18.setTop (mkF m 89 #[.val (.int im), .val (.int ib), .val (.int i0), .val (.int i1), .val (.int i2), .val (.long ga), .second, .val (.int (im &&& (3 : Int32))), .val (.int (0 : Int32)), .val (.int (0 : Int32)), .val (.ref b1), .unset, .unset, .unset, .unset, .unset, .unset, .unset, .unset, .unset, .unset, .unset, .unset, .unset, .unset, .unset, .unset, .unset, .unset] [(.int (1 : Int32)), (.ref b1)])) _
    refine XS.aload X18.here hx rfl (hb hby at_89) rfl rfl ?_
    refine XS.iconst X18.here hx rfl (hb hby at_91) ?_
    refine X18.iaload hx (j := (0 : Int32)) (v := (.int (1 : Int32))) (by rw [e18]; exact Arq23.1) (State.isArrayOf_alike hZ.alike Arq23.2.1) Arq23.2.2 hiq23 haq23 (g := (mkF m 92 #[.val (.int im), .val (.int ib), .val (.int i0), .val (.int i1), .val (.int i2), .val (.long ga), .second, .val (.int (im &&& (3 : Int32))), .val (.int (0 : Int32)), .val (.int (0 : Int32)), .val (.ref b1), .unset, .unset, .unset, .unset, .unset, .unset, .unset, .unset, .unset, .unset, .unset, .unset, .unset, .unset, .unset, .unset, .unset, .unset] [(.int (0 : Int32)), (.ref b1), (.int (1 : Int32)), (.ref b1)])) rfl rfl (hb hby at_92) _ ?_
    refine st25 _ ?_
    refine XS.aload X25.here hx rfl (hb hby at_94) rfl rfl ?_
    refine XS.iconst X25.here hx rfl (hb hby at_96) ?_
    show Steps p.tables e below (T25.setTop (mkF m 97 #[.val (.int im), .val (.int ib), .val (.int i0), .val (.int i1), .val (.int i2), .val (.long ga), .second, .val (.int (im &&& (3 : Int32))), .val (.int (0 : Int32)), .val (.int (0 : Int32)), .val (.ref b1), .unset, .unset, .unset, .unset, .unset, .unset, .unset, .unset, .unset, .unset, .unset, .unset, .unset, .unset, .unset, .unset, .unset, .unset] [(.int (0 : Int32)), (.ref b1)])) _
    refine XS.iconst X25.here hx rfl (hb hby at_97) ?_
    refine st31 _ ?_
    refine XS.iloadN X31.here hx rfl (hb hby at_99) rfl ?_
    refine XS.i2l X31.here hx rfl (hb hby at_100) rfl ?_
    refine XS.lstore X31.here hx rfl (hb hby at_101) rfl (l' := #[.val (.int im), .val (.int ib), .val (.int i0), .val (.int i1), .val (.int i2), .val (.long ga), .second, .val (.int (im &&& (3 : Int32))), .val (.int (0 : Int32)), .val (.int (0 : Int32)), .val (.ref b1), .val (.long (ib.toInt64)), .second, .unset, .unset, .unset, .unset, .unset, .unset, .unset, .unset, .unset, .unset, .unset, .unset, .unset, .unset, .unset, .unset]) rfl ?_
    exact kt
  obtain ⟨s0, hs0⟩ : ∃ z : Int64, z = (ib.toInt64) := ⟨_, rfl⟩
  have k37 : ∀ tq, Steps p.tables e below (T31.setTop (mkF m 103 #[.val (.int im), .val (.int ib), .val (.int i0), .val (.int i1), .val (.int i2), .val (.long ga), .second, .val (.int (im &&& (3 : Int32))), .val (.int (0 : Int32)), .val (.int (0 : Int32)), .val (.ref b1), .val (.long s0), .second, .unset, .unset, .unset, .unset, .unset, .unset, .unset, .unset, .unset, .unset, .unset, .unset, .unset, .unset, .unset, .unset] [])) tq → Steps p.tables e below (s₁.setTop (entryFrame m #[(.int im), (.int ib), (.int i0), (.int i1), (.int i2), (.long ga)] maxLocals)) tq := by
    intro tq kt
    subst hs0
    exact k36 tq kt
  have k38 : ∀ tq, Steps p.tables e below (T31.setTop (mkF m 113 #[.val (.int im), .val (.int ib), .val (.int i0), .val (.int i1), .val (.int i2), .val (.long ga), .second, .val (.int (im &&& (3 : Int32))), .val (.int (0 : Int32)), .val (.int (0 : Int32)), .val (.ref b1), .val (.long s0), .second, .val (.long (s0 + ((i0 &&& (2147483647 : Int32)).toInt64))), .second, .unset, .unset, .unset, .unset, .unset, .unset, .unset, .unset, .unset, .unset, .unset, .unset, .unset, .unset] [])) tq → Steps p.tables e below (s₁.setTop (entryFrame m #[(.int im), (.int ib), (.int i0), (.int i1), (.int i2), (.long ga)] maxLocals)) tq := by
    intro tq kt
    refine k37 tq ?_
    refine XS.lload X31.here hx rfl (hb hby at_103) rfl ?_
    show Steps p.tables e below (T31.setTop (mkF m 105 #[.val (.int im), .val (.int ib), .val (.int i0), .val (.int i1), .val (.int i2), .val (.long ga), .second, .val (.int (im &&& (3 : Int32))), .val (.int (0 : Int32)), .val (.int (0 : Int32)), .val (.ref b1), .val (.long s0), .second, .unset, .unset, .unset, .unset, .unset, .unset, .unset, .unset, .unset, .unset, .unset, .unset, .unset, .unset, .unset, .unset] [(.long s0)])) _
    refine XS.iloadN X31.here hx rfl (hb hby at_105) rfl ?_
    show Steps p.tables e below (T31.setTop (mkF m 106 #[.val (.int im), .val (.int ib), .val (.int i0), .val (.int i1), .val (.int i2), .val (.long ga), .second, .val (.int (im &&& (3 : Int32))), .val (.int (0 : Int32)), .val (.int (0 : Int32)), .val (.ref b1), .val (.long s0), .second, .unset, .unset, .unset, .unset, .unset, .unset, .unset, .unset, .unset, .unset, .unset, .unset, .unset, .unset, .unset, .unset] [(.int i0), (.long s0)])) _
    refine X31.ldcInt hx hown (mvT hZ (hw _ (List.mem_of_getElem? (i := 1) rfl))) (g := (mkF m 106 #[.val (.int im), .val (.int ib), .val (.int i0), .val (.int i1), .val (.int i2), .val (.long ga), .second, .val (.int (im &&& (3 : Int32))), .val (.int (0 : Int32)), .val (.int (0 : Int32)), .val (.ref b1), .val (.long s0), .second, .unset, .unset, .unset, .unset, .unset, .unset, .unset, .unset, .unset, .unset, .unset, .unset, .unset, .unset, .unset, .unset] [(.int i0), (.long s0)])) rfl (hb hby at_106) _ ?_
    refine XS.iand X31.here hx rfl (hb hby at_108) rfl ?_
    refine XS.i2l X31.here hx rfl (hb hby at_109) rfl ?_
    refine XS.ladd X31.here hx rfl (hb hby at_110) rfl ?_
    refine XS.lstore X31.here hx rfl (hb hby at_111) rfl (l' := #[.val (.int im), .val (.int ib), .val (.int i0), .val (.int i1), .val (.int i2), .val (.long ga), .second, .val (.int (im &&& (3 : Int32))), .val (.int (0 : Int32)), .val (.int (0 : Int32)), .val (.ref b1), .val (.long s0), .second, .val (.long (s0 + ((i0 &&& (2147483647 : Int32)).toInt64))), .second, .unset, .unset, .unset, .unset, .unset, .unset, .unset, .unset, .unset, .unset, .unset, .unset, .unset, .unset]) rfl ?_
    exact kt
  obtain ⟨f0, hf0⟩ : ∃ z : Int64, z = (s0 + ((i0 &&& (2147483647 : Int32)).toInt64)) := ⟨_, rfl⟩
  have k39 : ∀ tq, Steps p.tables e below (T31.setTop (mkF m 113 #[.val (.int im), .val (.int ib), .val (.int i0), .val (.int i1), .val (.int i2), .val (.long ga), .second, .val (.int (im &&& (3 : Int32))), .val (.int (0 : Int32)), .val (.int (0 : Int32)), .val (.ref b1), .val (.long s0), .second, .val (.long f0), .second, .unset, .unset, .unset, .unset, .unset, .unset, .unset, .unset, .unset, .unset, .unset, .unset, .unset, .unset] [])) tq → Steps p.tables e below (s₁.setTop (entryFrame m #[(.int im), (.int ib), (.int i0), (.int i1), (.int i2), (.long ga)] maxLocals)) tq := by
    intro tq kt
    subst hf0
    exact k38 tq kt
  have k40 : ∀ tq, Steps p.tables e below (T31.setTop (mkF m 124 #[.val (.int im), .val (.int ib), .val (.int i0), .val (.int i1), .val (.int i2), .val (.long ga), .second, .val (.int (im &&& (3 : Int32))), .val (.int (0 : Int32)), .val (.int (0 : Int32)), .val (.ref b1), .val (.long s0), .second, .val (.long f0), .second, .val (.long (f0 + (ga &&& (1048575 : Int64)))), .second, .unset, .unset, .unset, .unset, .unset, .unset, .unset, .unset, .unset, .unset, .unset, .unset] [])) tq → Steps p.tables e below (s₁.setTop (entryFrame m #[(.int im), (.int ib), (.int i0), (.int i1), (.int i2), (.long ga)] maxLocals)) tq := by
    intro tq kt
    refine k39 tq ?_
    show Steps p.tables e below (T31.setTop (mkF m 113 #[.val (.int im), .val (.int ib), .val (.int i0), .val (.int i1), .val (.int i2), .val (.long ga), .second, .val (.int (im &&& (3 : Int32))), .val (.int (0 : Int32)), .val (.int (0 : Int32)), .val (.ref b1), .val (.long s0), .second, .val (.long f0), .second, .unset, .unset, .unset, .unset, .unset, .unset, .unset, .unset, .unset, .unset, .unset, .unset, .unset, .unset] [])) _
    refine XS.lload X31.here hx rfl (hb hby at_113) rfl ?_
    refine XS.lload X31.here hx rfl (hb hby at_115) rfl ?_
    show Steps p.tables e below (T31.setTop (mkF m 117 #[.val (.int im), .val (.int ib), .val (.int i0), .val (.int i1), .val (.int i2), .val (.long ga), .second, .val (.int (im &&& (3 : Int32))), .val (.int (0 : Int32)), .val (.int (0 : Int32)), .val (.ref b1), .val (.long s0), .second, .val (.long f0), .second, .unset, .unset, .unset, .unset, .unset, .unset, .unset, .unset, .unset, .unset, .unset, .unset, .unset, .unset] [(.long ga), (.long f0)])) _
    refine X31.ldc2Long hx hown (mvT hZ (hw _ (List.mem_of_getElem? (i := 2) rfl))) (g := (mkF m 117 #[.val (.int im), .val (.int ib), .val (.int i0), .val (.int i1), .val (.int i2), .val (.long ga), .second, .val (.int (im &&& (3 : Int32))), .val (.int (0 : Int32)), .val (.int (0 : Int32)), .val (.ref b1), .val (.long s0), .second, .val (.long f0), .second, .unset, .unset, .unset, .unset, .unset, .unset, .unset, .unset, .unset, .unset, .unset, .unset, .unset, .unset] [(.long ga), (.long f0)])) rfl (hb hby at_117) _ ?_
    refine XS.land X31.here hx rfl (hb hby at_120) rfl ?_
    refine XS.ladd X31.here hx rfl (hb hby at_121) rfl ?_
    refine XS.lstore X31.here hx rfl (hb hby at_122) rfl (l' := #[.val (.int im), .val (.int ib), .val (.int i0), .val (.int i1), .val (.int i2), .val (.long ga), .second, .val (.int (im &&& (3 : Int32))), .val (.int (0 : Int32)), .val (.int (0 : Int32)), .val (.ref b1), .val (.long s0), .second, .val (.long f0), .second, .val (.long (f0 + (ga &&& (1048575 : Int64)))), .second, .unset, .unset, .unset, .unset, .unset, .unset, .unset, .unset, .unset, .unset, .unset, .unset]) rfl ?_
    exact kt
  obtain ⟨s1, hs1⟩ : ∃ z : Int64, z = (f0 + (ga &&& (1048575 : Int64))) := ⟨_, rfl⟩
  have k41 : ∀ tq, Steps p.tables e below (T31.setTop (mkF m 124 #[.val (.int im), .val (.int ib), .val (.int i0), .val (.int i1), .val (.int i2), .val (.long ga), .second, .val (.int (im &&& (3 : Int32))), .val (.int (0 : Int32)), .val (.int (0 : Int32)), .val (.ref b1), .val (.long s0), .second, .val (.long f0), .second, .val (.long s1), .second, .unset, .unset, .unset, .unset, .unset, .unset, .unset, .unset, .unset, .unset, .unset, .unset] [])) tq → Steps p.tables e below (s₁.setTop (entryFrame m #[(.int im), (.int ib), (.int i0), (.int i1), (.int i2), (.long ga)] maxLocals)) tq := by
    intro tq kt
    subst hs1
    exact k40 tq kt
  have k42 : ∀ tq, Steps p.tables e below (T31.setTop (mkF m 134 #[.val (.int im), .val (.int ib), .val (.int i0), .val (.int i1), .val (.int i2), .val (.long ga), .second, .val (.int (im &&& (3 : Int32))), .val (.int (0 : Int32)), .val (.int (0 : Int32)), .val (.ref b1), .val (.long s0), .second, .val (.long f0), .second, .val (.long s1), .second, .val (.long (s1 + ((i1 &&& (2147483647 : Int32)).toInt64))), .second, .unset, .unset, .unset, .unset, .unset, .unset, .unset, .unset, .unset, .unset] [])) tq → Steps p.tables e below (s₁.setTop (entryFrame m #[(.int im), (.int ib), (.int i0), (.int i1), (.int i2), (.long ga)] maxLocals)) tq := by
    intro tq kt
    refine k41 tq ?_
    show Steps p.tables e below (T31.setTop (mkF m 124 #[.val (.int im), .val (.int ib), .val (.int i0), .val (.int i1), .val (.int i2), .val (.long ga), .second, .val (.int (im &&& (3 : Int32))), .val (.int (0 : Int32)), .val (.int (0 : Int32)), .val (.ref b1), .val (.long s0), .second, .val (.long f0), .second, .val (.long s1), .second, .unset, .unset, .unset, .unset, .unset, .unset, .unset, .unset, .unset, .unset, .unset, .unset] [])) _
    refine XS.lload X31.here hx rfl (hb hby at_124) rfl ?_
    refine XS.iloadN X31.here hx rfl (hb hby at_126) rfl ?_
    show Steps p.tables e below (T31.setTop (mkF m 127 #[.val (.int im), .val (.int ib), .val (.int i0), .val (.int i1), .val (.int i2), .val (.long ga), .second, .val (.int (im &&& (3 : Int32))), .val (.int (0 : Int32)), .val (.int (0 : Int32)), .val (.ref b1), .val (.long s0), .second, .val (.long f0), .second, .val (.long s1), .second, .unset, .unset, .unset, .unset, .unset, .unset, .unset, .unset, .unset, .unset, .unset, .unset] [(.int i1), (.long s1)])) _
    refine X31.ldcInt hx hown (mvT hZ (hw _ (List.mem_of_getElem? (i := 1) rfl))) (g := (mkF m 127 #[.val (.int im), .val (.int ib), .val (.int i0), .val (.int i1), .val (.int i2), .val (.long ga), .second, .val (.int (im &&& (3 : Int32))), .val (.int (0 : Int32)), .val (.int (0 : Int32)), .val (.ref b1), .val (.long s0), .second, .val (.long f0), .second, .val (.long s1), .second, .unset, .unset, .unset, .unset, .unset, .unset, .unset, .unset, .unset, .unset, .unset, .unset] [(.int i1), (.long s1)])) rfl (hb hby at_127) _ ?_
    refine XS.iand X31.here hx rfl (hb hby at_129) rfl ?_
    refine XS.i2l X31.here hx rfl (hb hby at_130) rfl ?_
    refine XS.ladd X31.here hx rfl (hb hby at_131) rfl ?_
    show Steps p.tables e below (T31.setTop (mkF m 132 #[.val (.int im), .val (.int ib), .val (.int i0), .val (.int i1), .val (.int i2), .val (.long ga), .second, .val (.int (im &&& (3 : Int32))), .val (.int (0 : Int32)), .val (.int (0 : Int32)), .val (.ref b1), .val (.long s0), .second, .val (.long f0), .second, .val (.long s1), .second, .unset, .unset, .unset, .unset, .unset, .unset, .unset, .unset, .unset, .unset, .unset, .unset] [(.long (s1 + ((i1 &&& (2147483647 : Int32)).toInt64)))])) _
    refine XS.lstore X31.here hx rfl (hb hby at_132) rfl (l' := #[.val (.int im), .val (.int ib), .val (.int i0), .val (.int i1), .val (.int i2), .val (.long ga), .second, .val (.int (im &&& (3 : Int32))), .val (.int (0 : Int32)), .val (.int (0 : Int32)), .val (.ref b1), .val (.long s0), .second, .val (.long f0), .second, .val (.long s1), .second, .val (.long (s1 + ((i1 &&& (2147483647 : Int32)).toInt64))), .second, .unset, .unset, .unset, .unset, .unset, .unset, .unset, .unset, .unset, .unset]) rfl ?_
    exact kt
  obtain ⟨f1, hf1⟩ : ∃ z : Int64, z = (s1 + ((i1 &&& (2147483647 : Int32)).toInt64)) := ⟨_, rfl⟩
  have k43 : ∀ tq, Steps p.tables e below (T31.setTop (mkF m 134 #[.val (.int im), .val (.int ib), .val (.int i0), .val (.int i1), .val (.int i2), .val (.long ga), .second, .val (.int (im &&& (3 : Int32))), .val (.int (0 : Int32)), .val (.int (0 : Int32)), .val (.ref b1), .val (.long s0), .second, .val (.long f0), .second, .val (.long s1), .second, .val (.long f1), .second, .unset, .unset, .unset, .unset, .unset, .unset, .unset, .unset, .unset, .unset] [])) tq → Steps p.tables e below (s₁.setTop (entryFrame m #[(.int im), (.int ib), (.int i0), (.int i1), (.int i2), (.long ga)] maxLocals)) tq := by
    intro tq kt
    subst hf1
    exact k42 tq kt
  have k44 : ∀ tq, Steps p.tables e below (T31.setTop (mkF m 148 #[.val (.int im), .val (.int ib), .val (.int i0), .val (.int i1), .val (.int i2), .val (.long ga), .second, .val (.int (im &&& (3 : Int32))), .val (.int (0 : Int32)), .val (.int (0 : Int32)), .val (.ref b1), .val (.long s0), .second, .val (.long f0), .second, .val (.long s1), .second, .val (.long f1), .second, .val (.long (f1 + (((ga.toUInt64 >>> ((20 : Int32) &&& 0x3f).toInt64.toUInt64).toInt64) &&& (1048575 : Int64)))), .second, .unset, .unset, .unset, .unset, .unset, .unset, .unset, .unset] [])) tq → Steps p.tables e below (s₁.setTop (entryFrame m #[(.int im), (.int ib), (.int i0), (.int i1), (.int i2), (.long ga)] maxLocals)) tq := by
    intro tq kt
    refine k43 tq ?_
    refine XS.lload X31.here hx rfl (hb hby at_134) rfl ?_
    refine XS.lload X31.here hx rfl (hb hby at_136) rfl ?_
    refine XS.bipush X31.here hx rfl (hb hby at_138) ?_
    refine XS.lushr X31.here hx rfl (hb hby at_140) rfl ?_
    show Steps p.tables e below (T31.setTop (mkF m 141 #[.val (.int im), .val (.int ib), .val (.int i0), .val (.int i1), .val (.int i2), .val (.long ga), .second, .val (.int (im &&& (3 : Int32))), .val (.int (0 : Int32)), .val (.int (0 : Int32)), .val (.ref b1), .val (.long s0), .second, .val (.long f0), .second, .val (.long s1), .second, .val (.long f1), .second, .unset, .unset, .unset, .unset, .unset, .unset, .unset, .unset, .unset, .unset] [(.long ((ga.toUInt64 >>> ((20 : Int32) &&& 0x3f).toInt64.toUInt64).toInt64)), (.long f1)])) _
    refine X31.ldc2Long hx hown (mvT hZ (hw _ (List.mem_of_getElem? (i := 2) rfl))) (g := (mkF m 141 #[.val (.int im), .val (.int ib), .val (.int i0), .val (.int i1), .val (.int i2), .val (.long ga), .second, .val (.int (im &&& (3 : Int32))), .val (.int (0 : Int32)), .val (.int (0 : Int32)), .val (.ref b1), .val (.long s0), .second, .val (.long f0), .second, .val (.long s1), .second, .val (.long f1), .second, .unset, .unset, .unset, .unset, .unset, .unset, .unset, .unset, .unset, .unset] [(.long ((ga.toUInt64 >>> ((20 : Int32) &&& 0x3f).toInt64.toUInt64).toInt64)), (.long f1)])) rfl (hb hby at_141) _ ?_
    show Steps p.tables e below (T31.setTop (mkF m 144 #[.val (.int im), .val (.int ib), .val (.int i0), .val (.int i1), .val (.int i2), .val (.long ga), .second, .val (.int (im &&& (3 : Int32))), .val (.int (0 : Int32)), .val (.int (0 : Int32)), .val (.ref b1), .val (.long s0), .second, .val (.long f0), .second, .val (.long s1), .second, .val (.long f1), .second, .unset, .unset, .unset, .unset, .unset, .unset, .unset, .unset, .unset, .unset] [(.long (1048575 : Int64)), (.long ((ga.toUInt64 >>> ((20 : Int32) &&& 0x3f).toInt64.toUInt64).toInt64)), (.long f1)])) _
    refine XS.land X31.here hx rfl (hb hby at_144) rfl ?_
    refine XS.ladd X31.here hx rfl (hb hby at_145) rfl ?_
    refine XS.lstore X31.here hx rfl (hb hby at_146) rfl (l' := #[.val (.int im), .val (.int ib), .val (.int i0), .val (.int i1), .val (.int i2), .val (.long ga), .second, .val (.int (im &&& (3 : Int32))), .val (.int (0 : Int32)), .val (.int (0 : Int32)), .val (.ref b1), .val (.long s0), .second, .val (.long f0), .second, .val (.long s1), .second, .val (.long f1), .second, .val (.long (f1 + (((ga.toUInt64 >>> ((20 : Int32) &&& 0x3f).toInt64.toUInt64).toInt64) &&& (1048575 : Int64)))), .second, .unset, .unset, .unset, .unset, .unset, .unset, .unset, .unset]) rfl ?_
    exact kt
  obtain ⟨s2, hs2⟩ : ∃ z : Int64, z = (f1 + (((ga.toUInt64 >>> ((20 : Int32) &&& 0x3f).toInt64.toUInt64).toInt64) &&& (1048575 : Int64))) := ⟨_, rfl⟩
  have k45 : ∀ tq, Steps p.tables e below (T31.setTop (mkF m 148 #[.val (.int im), .val (.int ib), .val (.int i0), .val (.int i1), .val (.int i2), .val (.long ga), .second, .val (.int (im &&& (3 : Int32))), .val (.int (0 : Int32)), .val (.int (0 : Int32)), .val (.ref b1), .val (.long s0), .second, .val (.long f0), .second, .val (.long s1), .second, .val (.long f1), .second, .val (.long s2), .second, .unset, .unset, .unset, .unset, .unset, .unset, .unset, .unset] [])) tq → Steps p.tables e below (s₁.setTop (entryFrame m #[(.int im), (.int ib), (.int i0), (.int i1), (.int i2), (.long ga)] maxLocals)) tq := by
    intro tq kt
    subst hs2
    exact k44 tq kt
  have k46 : ∀ tq, Steps p.tables e below (T31.setTop (mkF m 159 #[.val (.int im), .val (.int ib), .val (.int i0), .val (.int i1), .val (.int i2), .val (.long ga), .second, .val (.int (im &&& (3 : Int32))), .val (.int (0 : Int32)), .val (.int (0 : Int32)), .val (.ref b1), .val (.long s0), .second, .val (.long f0), .second, .val (.long s1), .second, .val (.long f1), .second, .val (.long s2), .second, .val (.long (s2 + ((i2 &&& (2147483647 : Int32)).toInt64))), .second, .unset, .unset, .unset, .unset, .unset, .unset] [])) tq → Steps p.tables e below (s₁.setTop (entryFrame m #[(.int im), (.int ib), (.int i0), (.int i1), (.int i2), (.long ga)] maxLocals)) tq := by
    intro tq kt
    refine k45 tq ?_
    refine XS.lload X31.here hx rfl (hb hby at_148) rfl ?_
    refine XS.iload X31.here hx rfl (hb hby at_150) rfl ?_
    show Steps p.tables e below (T31.setTop (mkF m 152 #[.val (.int im), .val (.int ib), .val (.int i0), .val (.int i1), .val (.int i2), .val (.long ga), .second, .val (.int (im &&& (3 : Int32))), .val (.int (0 : Int32)), .val (.int (0 : Int32)), .val (.ref b1), .val (.long s0), .second, .val (.long f0), .second, .val (.long s1), .second, .val (.long f1), .second, .val (.long s2), .second, .unset, .unset, .unset, .unset, .unset, .unset, .unset, .unset] [(.int i2), (.long s2)])) _
    refine X31.ldcInt hx hown (mvT hZ (hw _ (List.mem_of_getElem? (i := 1) rfl))) (g := (mkF m 152 #[.val (.int im), .val (.int ib), .val (.int i0), .val (.int i1), .val (.int i2), .val (.long ga), .second, .val (.int (im &&& (3 : Int32))), .val (.int (0 : Int32)), .val (.int (0 : Int32)), .val (.ref b1), .val (.long s0), .second, .val (.long f0), .second, .val (.long s1), .second, .val (.long f1), .second, .val (.long s2), .second, .unset, .unset, .unset, .unset, .unset, .unset, .unset, .unset] [(.int i2), (.long s2)])) rfl (hb hby at_152) _ ?_
    show Steps p.tables e below (T31.setTop (mkF m 154 #[.val (.int im), .val (.int ib), .val (.int i0), .val (.int i1), .val (.int i2), .val (.long ga), .second, .val (.int (im &&& (3 : Int32))), .val (.int (0 : Int32)), .val (.int (0 : Int32)), .val (.ref b1), .val (.long s0), .second, .val (.long f0), .second, .val (.long s1), .second, .val (.long f1), .second, .val (.long s2), .second, .unset, .unset, .unset, .unset, .unset, .unset, .unset, .unset] [(.int (2147483647 : Int32)), (.int i2), (.long s2)])) _
    refine XS.iand X31.here hx rfl (hb hby at_154) rfl ?_
    refine XS.i2l X31.here hx rfl (hb hby at_155) rfl ?_
    refine XS.ladd X31.here hx rfl (hb hby at_156) rfl ?_
    refine XS.lstore X31.here hx rfl (hb hby at_157) rfl (l' := #[.val (.int im), .val (.int ib), .val (.int i0), .val (.int i1), .val (.int i2), .val (.long ga), .second, .val (.int (im &&& (3 : Int32))), .val (.int (0 : Int32)), .val (.int (0 : Int32)), .val (.ref b1), .val (.long s0), .second, .val (.long f0), .second, .val (.long s1), .second, .val (.long f1), .second, .val (.long s2), .second, .val (.long (s2 + ((i2 &&& (2147483647 : Int32)).toInt64))), .second, .unset, .unset, .unset, .unset, .unset, .unset]) rfl ?_
    exact kt
  obtain ⟨f2, hf2⟩ : ∃ z : Int64, z = (s2 + ((i2 &&& (2147483647 : Int32)).toInt64)) := ⟨_, rfl⟩
  have k47 : ∀ tq, Steps p.tables e below (T31.setTop (mkF m 159 #[.val (.int im), .val (.int ib), .val (.int i0), .val (.int i1), .val (.int i2), .val (.long ga), .second, .val (.int (im &&& (3 : Int32))), .val (.int (0 : Int32)), .val (.int (0 : Int32)), .val (.ref b1), .val (.long s0), .second, .val (.long f0), .second, .val (.long s1), .second, .val (.long f1), .second, .val (.long s2), .second, .val (.long f2), .second, .unset, .unset, .unset, .unset, .unset, .unset] [])) tq → Steps p.tables e below (s₁.setTop (entryFrame m #[(.int im), (.int ib), (.int i0), (.int i1), (.int i2), (.long ga)] maxLocals)) tq := by
    intro tq kt
    subst hf2
    exact k46 tq kt
  subst hs0
  have ho := own_order hf0 hs1 hf1 hs2 hf2
  obtain ⟨T48, h48, k48, X48, e48, E48, A48, st48⟩ := newP X31 hx hZ (hw _ (List.mem_of_getElem? (i := 3) rfl)) e31 (g := (mkF m 160 #[.val (.int im), .val (.int ib), .val (.int i0), .val (.int i1), .val (.int i2), .val (.long ga), .second, .val (.int (im &&& (3 : Int32))), .val (.int (0 : Int32)), .val (.int (0 : Int32)), .val (.ref b1), .val (.long (ib.toInt64)), .second, .val (.long f0), .second, .val (.long s1), .second, .val (.long f1), .second, .val (.long s2), .second, .val (.long f2), .second, .unset, .unset, .unset, .unset, .unset, .unset] [(.int (3 : Int32))])) rfl (hb hby at_160) rfl (by decide) (cap := 3) (by decide) (by decide) (by decide) (by decide)
  obtain ⟨b48, g48⟩ : ∃ z, z = h31.size := ⟨_, rfl⟩
  rw [← g48] at A48 st48
  have ne_b1_b48 : b1 ≠ b48 := Nat.ne_of_lt (Nat.lt_of_lt_of_le v32.lt (Nat.le_of_eq g48.symm))
  have g_b48 : n0 ≤ b48 := Nat.le_trans z34 (Nat.le_of_eq g48.symm)
  have sz_b48 : h0.size ≤ b48 := Nat.le_trans kp33.1 (Nat.le_of_eq g48.symm)
  have f49 := v32.ext E48
  have z50 := Nat.le_trans z34 E48.1
  have kp51 := kp33.ext E48
  have V_b48 : Arv Z h48 b48 k48 .double (3 : Int32) [(.double (0 : UInt64)), (.double (0 : UInt64)), (.double (0 : UInt64))] (.double (0 : UInt64)) := (Arv.new A48 (by decide)).pad (pad_rep [] (.double (0 : UInt64)) 3)
  obtain ⟨T52, h52, k52, X52, e52, E52, A52, st52⟩ := newP X48 hx hZ (hw _ (List.mem_of_getElem? (i := 3) rfl)) e48 (g := (mkF m 165 #[.val (.int im), .val (.int ib), .val (.int i0), .val (.int i1), .val (.int i2), .val (.long ga), .second, .val (.int (im &&& (3 : Int32))), .val (.int (0 : Int32)), .val (.int (0 : Int32)), .val (.ref b1), .val (.long (ib.toInt64)), .second, .val (.long f0), .second, .val (.long s1), .second, .val (.long f1), .second, .val (.long s2), .second, .val (.long f2), .second, .val (.ref b48), .unset, .unset, .unset, .unset, .unset] [(.int (3 : Int32))])) rfl (hb hby at_165) rfl (by decide) (cap := 3) (by decide) (by decide) (by decide) (by decide)
  obtain ⟨b52, g52⟩ : ∃ z, z = h48.size := ⟨_, rfl⟩
  rw [← g52] at A52 st52
  have ne_b1_b52 : b1 ≠ b52 := Nat.ne_of_lt (Nat.lt_of_lt_of_le f49.lt (Nat.le_of_eq g52.symm))
  have ne_b48_b52 : b48 ≠ b52 := Nat.ne_of_lt (Nat.lt_of_lt_of_le V_b48.lt (Nat.le_of_eq g52.symm))
  have g_b52 : n0 ≤ b52 := Nat.le_trans z50 (Nat.le_of_eq g52.symm)
  have sz_b52 : h0.size ≤ b52 := Nat.le_trans kp51.1 (Nat.le_of_eq g52.symm)
  have f53 := f49.ext E52
  have f54 := V_b48.ext E52
  have z55 := Nat.le_trans z50 E52.1
  have kp56 := kp51.ext E52
  have V_b52 : Arv Z h52 b52 k52 .double (3 : Int32) [(.double (0 : UInt64)), (.double (0 : UInt64)), (.double (0 : UInt64))] (.double (0 : UInt64)) := (Arv.new A52 (by decide)).pad (pad_rep [] (.double (0 : UInt64)) 3)
  obtain ⟨T57, h57, k57, X57, e57, E57, A57, st57⟩ := newP X52 hx hZ (hw _ (List.mem_of_getElem? (i := 4) rfl)) e52 (g := (mkF m 170 #[.val (.int im), .val (.int ib), .val (.int i0), .val (.int i1), .val (.int i2), .val (.long ga), .second, .val (.int (im &&& (3 : Int32))), .val (.int (0 : Int32)), .val (.int (0 : Int32)), .val (.ref b1), .val (.long (ib.toInt64)), .second, .val (.long f0), .second, .val (.long s1), .second, .val (.long f1), .second, .val (.long s2), .second, .val (.long f2), .second, .val (.ref b48), .val (.ref b52), .unset, .unset, .unset, .unset] [(.int (3 : Int32))])) rfl (hb hby at_170) rfl (by decide) (cap := 3) (by decide) (by decide) (by decide) (by decide)
  obtain ⟨b57, g57⟩ : ∃ z, z = h52.size := ⟨_, rfl⟩
  rw [← g57] at A57 st57
  have ne_b1_b57 : b1 ≠ b57 := Nat.ne_of_lt (Nat.lt_of_lt_of_le f53.lt (Nat.le_of_eq g57.symm))
  have ne_b48_b57 : b48 ≠ b57 := Nat.ne_of_lt (Nat.lt_of_lt_of_le f54.lt (Nat.le_of_eq g57.symm))
  have ne_b52_b57 : b52 ≠ b57 := Nat.ne_of_lt (Nat.lt_of_lt_of_le V_b52.lt (Nat.le_of_eq g57.symm))
  have g_b57 : n0 ≤ b57 := Nat.le_trans z55 (Nat.le_of_eq g57.symm)
  have sz_b57 : h0.size ≤ b57 := Nat.le_trans kp56.1 (Nat.le_of_eq g57.symm)
  have f58 := f53.ext E57
  have f59 := f54.ext E57
  have f60 := V_b52.ext E57
  have z61 := Nat.le_trans z55 E57.1
  have kp62 := kp56.ext E57
  have V_b57 : Arv Z h57 b57 k57 .long (3 : Int32) [(.long (0 : Int64)), (.long (0 : Int64)), (.long (0 : Int64))] (.long (0 : Int64)) := (Arv.new A57 (by decide)).pad (pad_rep [] (.long (0 : Int64)) 3)
  obtain ⟨clq63, Arq63, cq63, Sq63, nq63, Hq63, Gq63⟩ := id f58
  have hiq63 : ¬ ((0 : Int32) < 0 ∨ clq63.slots.size ≤ ((0 : Int32)).toNatClampNeg) := inb_of Sq63 ⟨by decide, by decide⟩
  have haq63 : clq63.slots[((0 : Int32)).toNatClampNeg]? = some (.int (2 : Int32)) := Hq63.at hiq63 rfl
  obtain ⟨clq64, Arq64, cq64, Sq64, nq64, Hq64, Gq64⟩ := id f59
  have hiq64 : ¬ ((2 : Int32) < 0 ∨ clq64.slots.size ≤ ((2 : Int32)).toNatClampNeg) := inb_of Sq64 ⟨by decide, by decide⟩
  obtain ⟨T65, h65, X65, e65, W65, st65⟩ := stD X57 hx hZ e57 Arq64 (j := (2 : Int32)) hiq64 (g := (mkF m 183 #[.val (.int im), .val (.int ib), .val (.int i0), .val (.int i1), .val (.int i2), .val (.long ga), .second, .val (.int (im &&& (3 : Int32))), .val (.int (0 : Int32)), .val (.int (0 : Int32)), .val (.ref b1), .val (.long (ib.toInt64)), .second, .val (.long f0), .second, .val (.long s1), .second, .val (.long f1), .second, .val (.long s2), .second, .val (.long f2), .second, .val (.ref b48), .val (.ref b52), .val (.ref b57), .unset, .unset, .unset] [(.double (FP.l2d (ib.toInt64))), (.int (2 : Int32)), (.ref b48)])) rfl rfl (hb hby at_183)
  have v66 : Arv Z h65 b48 k48 .double (3 : Int32) [(.double (0 : UInt64)), (.double (0 : UInt64)), (.double (FP.l2d (ib.toInt64)))] (.double (0 : UInt64)) := Arv.set Arq64 cq64 Sq64 nq64 Hq64 Gq64 rfl W65 2 rfl (Nat.le_of_ble_eq_true rfl)
  have f67 := f58.other W65 ne_b1_b48
  have f68 := f60.other W65 (Ne.symm ne_b48_b52)
  have f69 := V_b57.other W65 (Ne.symm ne_b48_b57)
  have kp70 := kp62.wr W65 (Or.inr sz_b48)
  have z71 := Nat.le_trans z61 (Keep.of_wr W65).1
  have N72 := Fr.snoc X65 N35 g_b48
  obtain ⟨clq73, Arq73, cq73, Sq73, nq73, Hq73, Gq73⟩ := id f67
  have hiq73 : ¬ ((0 : Int32) < 0 ∨ clq73.slots.size ≤ ((0 : Int32)).toNatClampNeg) := inb_of Sq73 ⟨by decide, by decide⟩
  have haq73 : clq73.slots[((0 : Int32)).toNatClampNeg]? = some (.int (2 : Int32)) := Hq73.at hiq73 rfl
  obtain ⟨clq74, Arq74, cq74, Sq74, nq74, Hq74, Gq74⟩ := id f68
  have hiq74 : ¬ ((2 : Int32) < 0 ∨ clq74.slots.size ≤ ((2 : Int32)).toNatClampNeg) := inb_of Sq74 ⟨by decide, by decide⟩
  obtain ⟨T75, h75, X75, e75, W75, st75⟩ := stD X65 hx hZ e65 Arq74 (j := (2 : Int32)) hiq74 (g := (mkF m 193 #[.val (.int im), .val (.int ib), .val (.int i0), .val (.int i1), .val (.int i2), .val (.long ga), .second, .val (.int (im &&& (3 : Int32))), .val (.int (0 : Int32)), .val (.int (0 : Int32)), .val (.ref b1), .val (.long (ib.toInt64)), .second, .val (.long f0), .second, .val (.long s1), .second, .val (.long f1), .second, .val (.long s2), .second, .val (.long f2), .second, .val (.ref b48), .val (.ref b52), .val (.ref b57), .unset, .unset, .unset] [(.double (FP.l2d f0)), (.int (2 : Int32)), (.ref b52)])) rfl rfl (hb hby at_193)
  have v76 : Arv Z h75 b52 k52 .double (3 : Int32) [(.double (0 : UInt64)), (.double (0 : UInt64)), (.double (FP.l2d f0))] (.double (0 : UInt64)) := Arv.set Arq74 cq74 Sq74 nq74 Hq74 Gq74 rfl W75 2 rfl (Nat.le_of_ble_eq_true rfl)
  have f77 := f67.other W75 ne_b1_b52
  have f78 := f69.other W75 (Ne.symm ne_b52_b57)
  have f79 := v66.other W75 ne_b48_b52
  have kp80 := kp70.wr W75 (Or.inr sz_b52)
  have z81 := Nat.le_trans z71 (Keep.of_wr W75).1
  have N82 := Fr.snoc X75 N72 g_b52
  obtain ⟨clq83, Arq83, cq83, Sq83, nq83, Hq83, Gq83⟩ := id f77
  have hiq83 : ¬ ((0 : Int32) < 0 ∨ clq83.slots.size ≤ ((0 : Int32)).toNatClampNeg) := inb_of Sq83 ⟨by decide, by decide⟩
  have haq83 : clq83.slots[((0 : Int32)).toNatClampNeg]? = some (.int (2 : Int32)) := Hq83.at hiq83 rfl
  obtain ⟨clq84, Arq84, cq84, Sq84, nq84, Hq84, Gq84⟩ := id f78
  have hiq84 : ¬ ((2 : Int32) < 0 ∨ clq84.slots.size ≤ ((2 : Int32)).toNatClampNeg) := inb_of Sq84 ⟨by decide, by decide⟩
  obtain ⟨T85, h85, X85, e85, W85, st85⟩ := stJ X75 hx hZ e75 Arq84 (j := (2 : Int32)) hiq84 (g := (mkF m 202 #[.val (.int im), .val (.int ib), .val (.int i0), .val (.int i1), .val (.int i2), .val (.long ga), .second, .val (.int (im &&& (3 : Int32))), .val (.int (0 : Int32)), .val (.int (0 : Int32)), .val (.ref b1), .val (.long (ib.toInt64)), .second, .val (.long f0), .second, .val (.long s1), .second, .val (.long f1), .second, .val (.long s2), .second, .val (.long f2), .second, .val (.ref b48), .val (.ref b52), .val (.ref b57), .unset, .unset, .unset] [(.long f0), (.int (2 : Int32)), (.ref b57)])) rfl rfl (hb hby at_202)
  have v86 : Arv Z h85 b57 k57 .long (3 : Int32) [(.long (0 : Int64)), (.long (0 : Int64)), (.long f0)] (.long (0 : Int64)) := Arv.set Arq84 cq84 Sq84 nq84 Hq84 Gq84 rfl W85 2 rfl (Nat.le_of_ble_eq_true rfl)
  have f87 := f77.other W85 ne_b1_b57
  have f88 := f79.other W85 ne_b48_b57
  have f89 := v76.other W85 ne_b52_b57
  have kp90 := kp80.wr W85 (Or.inr sz_b57)
  have z91 := Nat.le_trans z81 (Keep.of_wr W85).1
  have N92 := Fr.snoc X85 N82 g_b57
  obtain ⟨clq93, Arq93, cq93, Sq93, nq93, Hq93, Gq93⟩ := id f87
  have hiq93 : ¬ ((1 : Int32) < 0 ∨ clq93.slots.size ≤ ((1 : Int32)).toNatClampNeg) := inb_of Sq93 ⟨by decide, by decide⟩
  have haq93 : clq93.slots[((1 : Int32)).toNatClampNeg]? = some (.int (1 : Int32)) := Hq93.at hiq93 rfl
  obtain ⟨clq94, Arq94, cq94, Sq94, nq94, Hq94, Gq94⟩ := id f88
  have hiq94 : ¬ ((1 : Int32) < 0 ∨ clq94.slots.size ≤ ((1 : Int32)).toNatClampNeg) := inb_of Sq94 ⟨by decide, by decide⟩
  obtain ⟨T95, h95, X95, e95, W95, st95⟩ := stD X85 hx hZ e85 Arq94 (j := (1 : Int32)) hiq94 (g := (mkF m 212 #[.val (.int im), .val (.int ib), .val (.int i0), .val (.int i1), .val (.int i2), .val (.long ga), .second, .val (.int (im &&& (3 : Int32))), .val (.int (0 : Int32)), .val (.int (0 : Int32)), .val (.ref b1), .val (.long (ib.toInt64)), .second, .val (.long f0), .second, .val (.long s1), .second, .val (.long f1), .second, .val (.long s2), .second, .val (.long f2), .second, .val (.ref b48), .val (.ref b52), .val (.ref b57), .unset, .unset, .unset] [(.double (FP.l2d s1)), (.int (1 : Int32)), (.ref b48)])) rfl rfl (hb hby at_212)
  have v96 : Arv Z h95 b48 k48 .double (3 : Int32) [(.double (0 : UInt64)), (.double (FP.l2d s1)), (.double (FP.l2d (ib.toInt64)))] (.double (0 : UInt64)) := Arv.set Arq94 cq94 Sq94 nq94 Hq94 Gq94 rfl W95 1 rfl (Nat.le_of_ble_eq_true rfl)
  have f97 := f87.other W95 ne_b1_b48
  have f98 := f89.other W95 (Ne.symm ne_b48_b52)
  have f99 := v86.other W95 (Ne.symm ne_b48_b57)
  have kp100 := kp90.wr W95 (Or.inr sz_b48)
  have z101 := Nat.le_trans z91 (Keep.of_wr W95).1
  have N102 := Fr.snoc X95 N92 g_b48
  obtain ⟨clq103, Arq103, cq103, Sq103, nq103, Hq103, Gq103⟩ := id f97
  have hiq103 : ¬ ((1 : Int32) < 0 ∨ clq103.slots.size ≤ ((1 : Int32)).toNatClampNeg) := inb_of Sq103 ⟨by decide, by decide⟩
  have haq103 : clq103.slots[((1 : Int32)).toNatClampNeg]? = some (.int (1 : Int32)) := Hq103.at hiq103 rfl
  obtain ⟨clq104, Arq104, cq104, Sq104, nq104, Hq104, Gq104⟩ := id f98
  have hiq104 : ¬ ((1 : Int32) < 0 ∨ clq104.slots.size ≤ ((1 : Int32)).toNatClampNeg) := inb_of Sq104 ⟨by decide, by decide⟩
  obtain ⟨T105, h105, X105, e105, W105, st105⟩ := stD X95 hx hZ e95 Arq104 (j := (1 : Int32)) hiq104 (g := (mkF m 222 #[.val (.int im), .val (.int ib), .val (.int i0), .val (.int i1), .val (.int i2), .val (.long ga), .second, .val (.int (im &&& (3 : Int32))), .val (.int (0 : Int32)), .val (.int (0 : Int32)), .val (.ref b1), .val (.long (ib.toInt64)), .second, .val (.long f0), .second, .val (.long s1), .second, .val (.long f1), .second, .val (.long s2), .second, .val (.long f2), .second, .val (.ref b48), .val (.ref b52), .val (.ref b57), .unset, .unset, .unset] [(.double (FP.l2d f1)), (.int (1 : Int32)), (.ref b52)])) rfl rfl (hb hby at_222)
  have v106 : Arv Z h105 b52 k52 .double (3 : Int32) [(.double (0 : UInt64)), (.double (FP.l2d f1)), (.double (FP.l2d f0))] (.double (0 : UInt64)) := Arv.set Arq104 cq104 Sq104 nq104 Hq104 Gq104 rfl W105 1 rfl (Nat.le_of_ble_eq_true rfl)
  have f107 := f97.other W105 ne_b1_b52
  have f108 := f99.other W105 (Ne.symm ne_b52_b57)
  have f109 := v96.other W105 ne_b48_b52
  have kp110 := kp100.wr W105 (Or.inr sz_b52)
  have z111 := Nat.le_trans z101 (Keep.of_wr W105).1
  have N112 := Fr.snoc X105 N102 g_b52
  obtain ⟨clq113, Arq113, cq113, Sq113, nq113, Hq113, Gq113⟩ := id f107
  have hiq113 : ¬ ((1 : Int32) < 0 ∨ clq113.slots.size ≤ ((1 : Int32)).toNatClampNeg) := inb_of Sq113 ⟨by decide, by decide⟩
  have haq113 : clq113.slots[((1 : Int32)).toNatClampNeg]? = some (.int (1 : Int32)) := Hq113.at hiq113 rfl
  obtain ⟨clq114, Arq114, cq114, Sq114, nq114, Hq114, Gq114⟩ := id f108
  have hiq114 : ¬ ((1 : Int32) < 0 ∨ clq114.slots.size ≤ ((1 : Int32)).toNatClampNeg) := inb_of Sq114 ⟨by decide, by decide⟩
  obtain ⟨T115, h115, X115, e115, W115, st115⟩ := stJ X105 hx hZ e105 Arq114 (j := (1 : Int32)) hiq114 (g := (mkF m 231 #[.val (.int im), .val (.int ib), .val (.int i0), .val (.int i1), .val (.int i2), .val (.long ga), .second, .val (.int (im &&& (3 : Int32))), .val (.int (0 : Int32)), .val (.int (0 : Int32)), .val (.ref b1), .val (.long (ib.toInt64)), .second, .val (.long f0), .second, .val (.long s1), .second, .val (.long f1), .second, .val (.long s2), .second, .val (.long f2), .second, .val (.ref b48), .val (.ref b52), .val (.ref b57), .unset, .unset, .unset] [(.long f1), (.int (1 : Int32)), (.ref b57)])) rfl rfl (hb hby at_231)
  have v116 : Arv Z h115 b57 k57 .long (3 : Int32) [(.long (0 : Int64)), (.long f1), (.long f0)] (.long (0 : Int64)) := Arv.set Arq114 cq114 Sq114 nq114 Hq114 Gq114 rfl W115 1 rfl (Nat.le_of_ble_eq_true rfl)
  have f117 := f107.other W115 ne_b1_b57
  have f118 := f109.other W115 ne_b48_b57
  have f119 := v106.other W115 ne_b52_b57
  have kp120 := kp110.wr W115 (Or.inr sz_b57)
  have z121 := Nat.le_trans z111 (Keep.of_wr W115).1
  have N122 := Fr.snoc X115 N112 g_b57
  obtain ⟨clq123, Arq123, cq123, Sq123, nq123, Hq123, Gq123⟩ := id f117
  have hiq123 : ¬ ((2 : Int32) < 0 ∨ clq123.slots.size ≤ ((2 : Int32)).toNatClampNeg) := inb_of Sq123 ⟨by decide, by decide⟩
  have haq123 : clq123.slots[((2 : Int32)).toNatClampNeg]? = some (.int (0 : Int32)) := Hq123.at hiq123 rfl
  obtain ⟨clq124, Arq124, cq124, Sq124, nq124, Hq124, Gq124⟩ := id f118
  have hiq124 : ¬ ((0 : Int32) < 0 ∨ clq124.slots.size ≤ ((0 : Int32)).toNatClampNeg) := inb_of Sq124 ⟨by decide, by decide⟩
  obtain ⟨T125, h125, X125, e125, W125, st125⟩ := stD X115 hx hZ e115 Arq124 (j := (0 : Int32)) hiq124 (g := (mkF m 241 #[.val (.int im), .val (.int ib), .val (.int i0), .val (.int i1), .val (.int i2), .val (.long ga), .second, .val (.int (im &&& (3 : Int32))), .val (.int (0 : Int32)), .val (.int (0 : Int32)), .val (.ref b1), .val (.long (ib.toInt64)), .second, .val (.long f0), .second, .val (.long s1), .second, .val (.long f1), .second, .val (.long s2), .second, .val (.long f2), .second, .val (.ref b48), .val (.ref b52), .val (.ref b57), .unset, .unset, .unset] [(.double (FP.l2d s2)), (.int (0 : Int32)), (.ref b48)])) rfl rfl (hb hby at_241)
  have v126 : Arv Z h125 b48 k48 .double (3 : Int32) [(.double (FP.l2d s2)), (.double (FP.l2d s1)), (.double (FP.l2d (ib.toInt64)))] (.double (0 : UInt64)) := Arv.set Arq124 cq124 Sq124 nq124 Hq124 Gq124 rfl W125 0 rfl (Nat.le_of_ble_eq_true rfl)
  have f127 := f117.other W125 ne_b1_b48
  have f128 := f119.other W125 (Ne.symm ne_b48_b52)
  have f129 := v116.other W125 (Ne.symm ne_b48_b57)
  have kp130 := kp120.wr W125 (Or.inr sz_b48)
  have z131 := Nat.le_trans z121 (Keep.of_wr W125).1
  have N132 := Fr.snoc X125 N122 g_b48
  obtain ⟨clq133, Arq133, cq133, Sq133, nq133, Hq133, Gq133⟩ := id f127
  have hiq133 : ¬ ((2 : Int32) < 0 ∨ clq133.slots.size ≤ ((2 : Int32)).toNatClampNeg) := inb_of Sq133 ⟨by decide, by decide⟩
  have haq133 : clq133.slots[((2 : Int32)).toNatClampNeg]? = some (.int (0 : Int32)) := Hq133.at hiq133 rfl
  obtain ⟨clq134, Arq134, cq134, Sq134, nq134, Hq134, Gq134⟩ := id f128
  have hiq134 : ¬ ((0 : Int32) < 0 ∨ clq134.slots.size ≤ ((0 : Int32)).toNatClampNeg) := inb_of Sq134 ⟨by decide, by decide⟩
  obtain ⟨T135, h135, X135, e135, W135, st135⟩ := stD X125 hx hZ e125 Arq134 (j := (0 : Int32)) hiq134 (g := (mkF m 251 #[.val (.int im), .val (.int ib), .val (.int i0), .val (.int i1), .val (.int i2), .val (.long ga), .second, .val (.int (im &&& (3 : Int32))), .val (.int (0 : Int32)), .val (.int (0 : Int32)), .val (.ref b1), .val (.long (ib.toInt64)), .second, .val (.long f0), .second, .val (.long s1), .second, .val (.long f1), .second, .val (.long s2), .second, .val (.long f2), .second, .val (.ref b48), .val (.ref b52), .val (.ref b57), .unset, .unset, .unset] [(.double (FP.l2d f2)), (.int (0 : Int32)), (.ref b52)])) rfl rfl (hb hby at_251)
  have v136 : Arv Z h135 b52 k52 .double (3 : Int32) [(.double (FP.l2d f2)), (.double (FP.l2d f1)), (.double (FP.l2d f0))] (.double (0 : UInt64)) := Arv.set Arq134 cq134 Sq134 nq134 Hq134 Gq134 rfl W135 0 rfl (Nat.le_of_ble_eq_true rfl)
  have f137 := f127.other W135 ne_b1_b52
  have f138 := f129.other W135 (Ne.symm ne_b52_b57)
  have f139 := v126.other W135 ne_b48_b52
  have kp140 := kp130.wr W135 (Or.inr sz_b52)
  have z141 := Nat.le_trans z131 (Keep.of_wr W135).1
  have N142 := Fr.snoc X135 N132 g_b52
  obtain ⟨clq143, Arq143, cq143, Sq143, nq143, Hq143, Gq143⟩ := id f137
  have hiq143 : ¬ ((2 : Int32) < 0 ∨ clq143.slots.size ≤ ((2 : Int32)).toNatClampNeg) := inb_of Sq143 ⟨by decide, by decide⟩
  have haq143 : clq143.slots[((2 : Int32)).toNatClampNeg]? = some (.int (0 : Int32)) := Hq143.at hiq143 rfl
  obtain ⟨clq144, Arq144, cq144, Sq144, nq144, Hq144, Gq144⟩ := id f138
  have hiq144 : ¬ ((0 : Int32) < 0 ∨ clq144.slots.size ≤ ((0 : Int32)).toNatClampNeg) := inb_of Sq144 ⟨by decide, by decide⟩
  obtain ⟨T145, h145, X145, e145, W145, st145⟩ := stJ X135 hx hZ e135 Arq144 (j := (0 : Int32)) hiq144 (g := (mkF m 260 #[.val (.int im), .val (.int ib), .val (.int i0), .val (.int i1), .val (.int i2), .val (.long ga), .second, .val (.int (im &&& (3 : Int32))), .val (.int (0 : Int32)), .val (.int (0 : Int32)), .val (.ref b1), .val (.long (ib.toInt64)), .second, .val (.long f0), .second, .val (.long s1), .second, .val (.long f1), .second, .val (.long s2), .second, .val (.long f2), .second, .val (.ref b48), .val (.ref b52), .val (.ref b57), .unset, .unset, .unset] [(.long f2), (.int (0 : Int32)), (.ref b57)])) rfl rfl (hb hby at_260)
  have v146 : Arv Z h145 b57 k57 .long (3 : Int32) [(.long f2), (.long f1), (.long f0)] (.long (0 : Int64)) := Arv.set Arq144 cq144 Sq144 nq144 Hq144 Gq144 rfl W145 0 rfl (Nat.le_of_ble_eq_true rfl)
  have f147 := f137.other W145 ne_b1_b57
  have f148 := f139.other W145 ne_b48_b57
  have f149 := v136.other W145 ne_b52_b57
  have kp150 := kp140.wr W145 (Or.inr sz_b57)
  have z151 := Nat.le_trans z141 (Keep.of_wr W145).1
  have N152 := Fr.snoc X145 N142 g_b57
  obtain ⟨T153, h153, X153, e153, E153, A153, D153, U153, st153⟩ := newO X145 hx hZ hown (hw _ (List.mem_of_getElem? (i := 5) rfl)) (hw _ (List.mem_of_getElem? (i := 6) rfl)) (hw _ (List.mem_of_getElem? (i := 7) rfl)) e145 (g := (mkF m 261 #[.val (.int im), .val (.int ib), .val (.int i0), .val (.int i1), .val (.int i2), .val (.long ga), .second, .val (.int (im &&& (3 : Int32))), .val (.int (0 : Int32)), .val (.int (0 : Int32)), .val (.ref b1), .val (.long (ib.toInt64)), .second, .val (.long f0), .second, .val (.long s1), .second, .val (.long f1), .second, .val (.long s2), .second, .val (.long f2), .second, .val (.ref b48), .val (.ref b52), .val (.ref b57), .unset, .unset, .unset] [])) rfl (hb hby at_261) (by decide) (by decide)
  obtain ⟨b153, g153⟩ : ∃ z, z = h145.size := ⟨_, rfl⟩
  rw [← g153] at A153 D153 U153 st153
  have ne_b1_b153 : b1 ≠ b153 := Nat.ne_of_lt (Nat.lt_of_lt_of_le f147.lt (Nat.le_of_eq g153.symm))
  have ne_b48_b153 : b48 ≠ b153 := Nat.ne_of_lt (Nat.lt_of_lt_of_le f148.lt (Nat.le_of_eq g153.symm))
  have ne_b52_b153 : b52 ≠ b153 := Nat.ne_of_lt (Nat.lt_of_lt_of_le f149.lt (Nat.le_of_eq g153.symm))
  have ne_b57_b153 : b57 ≠ b153 := Nat.ne_of_lt (Nat.lt_of_lt_of_le v146.lt (Nat.le_of_eq g153.symm))
  have g_b153 : n0 ≤ b153 := Nat.le_trans z151 (Nat.le_of_eq g153.symm)
  have sz_b153 : h0.size ≤ b153 := Nat.le_trans kp150.1 (Nat.le_of_eq g153.symm)
  have f154 := f147.ext E153
  have f155 := f148.ext E153
  have f156 := f149.ext E153
  have f157 := v146.ext E153
  have z158 := Nat.le_trans z151 E153.1
  have kp159 := kp150.ext E153
  have F_tasks_b153 : Fld Z h153 b153 "com/example/makespun/makespun/simulate/Timeline" "tasks" "[I" .null := D153 (Or.inl (hw _ (List.mem_of_getElem? (i := 15) rfl))) (ty := (.array .int)) (by decide)
  have F_starts_b153 : Fld Z h153 b153 "com/example/makespun/makespun/simulate/Timeline" "starts" "[D" .null := D153 (Or.inr (hw _ (List.mem_of_getElem? (i := 17) rfl))) (ty := (.array .double)) (by decide)
  have F_finishes_b153 : Fld Z h153 b153 "com/example/makespun/makespun/simulate/Timeline" "finishes" "[D" .null := D153 (Or.inr (hw _ (List.mem_of_getElem? (i := 19) rfl))) (ty := (.array .double)) (by decide)
  have F_size_b153 : Fld Z h153 b153 "com/example/makespun/makespun/simulate/Timeline" "size" "I" (.int (0 : Int32)) := D153 (Or.inl (hw _ (List.mem_of_getElem? (i := 26) rfl))) (ty := .int) (by decide)
  have F_idleIntervals_b153 : Fld Z h153 b153 "com/example/makespun/makespun/simulate/Timeline" "idleIntervals" "Ljava/util/NavigableMap;" .null := D153 (Or.inl (hw _ (List.mem_of_getElem? (i := 33) rfl))) (ty := (.object "java/util/NavigableMap")) (by decide)
  obtain ⟨_, _, ⟨T160, L160, k160, n160⟩, -, X160, ⟨Lc160, hQ160, l160, y160, z160⟩, st160⟩ := X153.specialBack hx (y := (⟨"com/example/makespun/makespun/simulate/Timeline", "<init>", "([D[D)V"⟩ : MethodName)) rfl hown (mvT hZ (hw _ (List.mem_of_getElem? (i := 8) rfl))) (mvT hZ (hw _ (List.mem_of_getElem? (i := 9) rfl))) (mvT hZ (hw _ (List.mem_of_getElem? (i := 10) rfl))) (by decide) (backOf (W := 1) (rmI l Z a0 hw [] b153 b48 b52 h153 n0 z158 A153 F_tasks_b153 F_starts_b153 F_finishes_b153 F_size_b153 F_idleIntervals_b153 g_b153) hZ (hw _ (List.mem_of_getElem? (i := 10) rfl)) (hw _ (List.mem_of_getElem? (i := 7) rfl)) (by decide) (by decide)) (g := (mkF m 269 #[.val (.int im), .val (.int ib), .val (.int i0), .val (.int i1), .val (.int i2), .val (.long ga), .second, .val (.int (im &&& (3 : Int32))), .val (.int (0 : Int32)), .val (.int (0 : Int32)), .val (.ref b1), .val (.long (ib.toInt64)), .second, .val (.long f0), .second, .val (.long s1), .second, .val (.long f1), .second, .val (.long s2), .second, .val (.long f2), .second, .val (.ref b48), .val (.ref b52), .val (.ref b57), .unset, .unset, .unset] [(.ref b52), (.ref b48), (.ref b153), (.ref b153)])) rfl (by rw [hml]; rfl) (Steps.refl _) (a := b153) (argsL := [(.ref b48), (.ref b52)]) (rest := [(.ref b153)]) (lenOf pd_0 rfl) rfl (by show 2 * 0 + _ ≤ _; exact Nat.le_of_eq rfl) (hb hby at_269) (fun _ _ => ⟨rfl, e153, (by decide : 5 + 1 ≤ _), (by decide : 17 + 4 ≤ _)⟩)
  dsimp only [Pt.U, Pt.locs, Pt.cells, Pt.slots] at X160 l160 y160 z160 st160 hQ160
  replace X160 := own_cast X160 l160 y160 z160
  obtain ⟨bt160, kb160, hv160, N160q, K160, gb160, Eo160, Ft160, Fs160, Ff160, Fi160, Vt160⟩ := hQ160
  rw [hv160] at st160
  have N160 := Fr.app N152 N160q
  have ne_b1_bt160 : b1 ≠ bt160 := Nat.ne_of_lt (Nat.lt_of_lt_of_le f154.lt gb160)
  have ne_b48_bt160 : b48 ≠ bt160 := Nat.ne_of_lt (Nat.lt_of_lt_of_le f155.lt gb160)
  have ne_b52_bt160 : b52 ≠ bt160 := Nat.ne_of_lt (Nat.lt_of_lt_of_le f156.lt gb160)
  have ne_b57_bt160 : b57 ≠ bt160 := Nat.ne_of_lt (Nat.lt_of_lt_of_le f157.lt gb160)
  have ne_b153_bt160 : b153 ≠ bt160 := Nat.ne_of_lt (Nat.lt_of_lt_of_le A153.lt gb160)
  have g_bt160 : n0 ≤ bt160 := Nat.le_trans z158 gb160
  have sz_bt160 : h0.size ≤ bt160 := Nat.le_trans kp159.1 gb160
  have f161 := f154.keep K160 (ninS ne_b1_b153 nin0)
  have f162 := f155.keep K160 (ninS ne_b48_b153 nin0)
  have f163 := f156.keep K160 (ninS ne_b52_b153 nin0)
  have f164 := f157.keep K160 (ninS ne_b57_b153 nin0)
  have f165 := A153.keep K160
  have z166 := Nat.le_trans z158 K160.1
  have kp167 := Keep.trans kp159 K160 (allS (Or.inr sz_b153) all0)
  have k168 : ∀ tq, Steps p.tables e below (T160.setTop (mkF m 274 #[.val (.int im), .val (.int ib), .val (.int i0), .val (.int i1), .val (.int i2), .val (.long ga), .second, .val (.int (im &&& (3 : Int32))), .val (.int (0 : Int32)), .val (.int (0 : Int32)), .val (.ref b1), .val (.long (ib.toInt64)), .second, .val (.long f0), .second, .val (.long s1), .second, .val (.long f1), .second, .val (.long s2), .second, .val (.long f2), .second, .val (.ref b48), .val (.ref b52), .val (.ref b57), .val (.ref b153), .unset, .unset] [])) tq → Steps p.tables e below (s₁.setTop (entryFrame m #[(.int im), (.int ib), (.int i0), (.int i1), (.int i2), (.long ga)] maxLocals)) tq := by
    intro tq kt
    refine k47 tq ?_
    refine XS.iconst X31.here hx rfl (hb hby at_159) ?_
    refine st48 _ ?_
    show Steps p.tables e below (T48.setTop (mkF m 162 #[.val (.int im), .val (.int ib), .val (.int i0), .val (.int i1), .val (.int i2), .val (.long ga), .second, .val (.int (im &&& (3 : Int32))), .val (.int (0 : Int32)), .val (.int (0 : Int32)), .val (.ref b1), .val (.long (ib.toInt64)), .second, .val (.long f0), .second, .val (.long s1), .second, .val (.long f1), .second, .val (.long s2), .second, .val (.long f2), .second, .unset, .unset, .unset, .unset, .unset, .unset] [(.ref b48)])) _
    refine XS.astore X48.here hx rfl (hb hby at_162) rfl rfl (l' := #[.val (.int im), .val (.int ib), .val (.int i0), .val (.int i1), .val (.int i2), .val (.long ga), .second, .val (.int (im &&& (3 : Int32))), .val (.int (0 : Int32)), .val (.int (0 : Int32)), .val (.ref b1), .val (.long (ib.toInt64)), .second, .val (.long f0), .second, .val (.long s1), .second, .val (.long f1), .second, .val (.long s2), .second, .val (.long f2), .second, .val (.ref b48), .unset, .unset, .unset, .unset, .unset]) rfl ?_
    refine XS.iconst X48.here hx rfl (hb hby at_164) ?_
    refine st52 _ ?_
    refine XS.astore X52.here hx rfl (hb hby at_167) rfl rfl (l' := #[.val (.int im), .val (.int ib), .val (.int i0), .val (.int i1), .val (.int i2), .val (.long ga), .second, .val (.int (im &&& (3 : Int32))), .val (.int (0 : Int32)), .val (.int (0 : Int32)), .val (.ref b1), .val (.long (ib.toInt64)), .second, .val (.long f0), .second, .val (.long s1), .second, .val (.long f1), .second, .val (.long s2), .second, .val (.long f2), .second, .val (.ref b48), .val (.ref b52), .unset, .unset, .unset, .unset]) rfl ?_
    refine XS.iconst X52.here hx rfl (hb hby at_169) ?_
    refine st57 _ ?_
    show Steps p.tables e below (T57.setTop (mkF m 172 #[.val (.int im), .val (.int ib), .val (.int i0), .val (.int i1), .val (.int i2), .val (.long ga), .second, .val (.int (im &&& (3 : Int32))), .val (.int (0 : Int32)), .val (.int (0 : Int32)), .val (.ref b1), .val (.long (ib.toInt64)), .second, .val (.long f0), .second, .val (.long s1), .second, .val (.long f1), .second, .val (.long s2), .second, .val (.long f2), .second, .val (.ref b48), .val (.ref b52), .unset, .unset, .unset, .unset] [(.ref b57)])) _
    refine XS.astore X57.here hx rfl (hb hby at_172) rfl rfl (l' := #[.val (.int im), .val (.int ib), .val (.int i0), .val (.int i1), .val (.int i2), .val (.long ga), .second, .val (.int (im &&& (3 : Int32))), .val (.int (0 : Int32)), .val (.int (0 : Int32)), .val (.ref b1), .val (.long (ib.toInt64)), .second, .val (.long f0), .second, .val (.long s1), .second, .val (.long f1), .second, .val (.long s2), .second, .val (.long f2), .second, .val (.ref b48), .val (.ref b52), .val (.ref b57), .unset, .unset, .unset]) rfl ?_
    refine XS.aload X57.here hx rfl (hb hby at_174) rfl rfl ?_
    refine XS.aload X57.here hx rfl (hb hby at_176) rfl rfl ?_
    refine XS.iconst X57.here hx rfl (hb hby at_178) ?_
    refine X57.iaload hx (j := (0 : Int32)) (v := (.int (2 : Int32))) (by rw [e57]; exact Arq63.1) (State.isArrayOf_alike hZ.alike Arq63.2.1) Arq63.2.2 hiq63 haq63 (g := (mkF m 179 #[.val (.int im), .val (.int ib), .val (.int i0), .val (.int i1), .val (.int i2), .val (.long ga), .second, .val (.int (im &&& (3 : Int32))), .val (.int (0 : Int32)), .val (.int (0 : Int32)), .val (.ref b1), .val (.long (ib.toInt64)), .second, .val (.long f0), .second, .val (.long s1), .second, .val (.long f1), .second, .val (.long s2), .second, .val (.long f2), .second, .val (.ref b48), .val (.ref b52), .val (.ref b57), .unset, .unset, .unset] [(.int (0 : Int32)), (.ref b1), (.ref b48)])) rfl rfl (hb hby at_179) _ ?_
    refine XS.lload X57.here hx rfl (hb hby at_180) rfl ?_
    show Steps p.tables e below (T57.setTop (mkF m 182 #[.val (.int im), .val (.int ib), .val (.int i0), .val (.int i1), .val (.int i2), .val (.long ga), .second, .val (.int (im &&& (3 : Int32))), .val (.int (0 : Int32)), .val (.int (0 : Int32)), .val (.ref b1), .val (.long (ib.toInt64)), .second, .val (.long f0), .second, .val (.long s1), .second, .val (.long f1), .second, .val (.long s2), .second, .val (.long f2), .second, .val (.ref b48), .val (.ref b52), .val (.ref b57), .unset, .unset, .unset] [(.long (ib.toInt64)), (.int (2 : Int32)), (.ref b48)])) _
    refine XS.l2dS X57.here hx rfl (hb hby at_182) rfl rfl ?_
    refine st65 _ ?_
    refine XS.aload X65.here hx rfl (hb hby at_184) rfl rfl ?_
    refine XS.aload X65.here hx rfl (hb hby at_186) rfl rfl ?_
    refine XS.iconst X65.here hx rfl (hb hby at_188) ?_
    refine X65.iaload hx (j := (0 : Int32)) (v := (.int (2 : Int32))) (by rw [e65]; exact Arq73.1) (State.isArrayOf_alike hZ.alike Arq73.2.1) Arq73.2.2 hiq73 haq73 (g := (mkF m 189 #[.val (.int im), .val (.int ib), .val (.int i0), .val (.int i1), .val (.int i2), .val (.long ga), .second, .val (.int (im &&& (3 : Int32))), .val (.int (0 : Int32)), .val (.int (0 : Int32)), .val (.ref b1), .val (.long (ib.toInt64)), .second, .val (.long f0), .second, .val (.long s1), .second, .val (.long f1), .second, .val (.long s2), .second, .val (.long f2), .second, .val (.ref b48), .val (.ref b52), .val (.ref b57), .unset, .unset, .unset] [(.int (0 : Int32)), (.ref b1), (.ref b52)])) rfl rfl (hb hby at_189) _ ?_
    show Steps p.tables e below (T65.setTop (mkF m 190 #[.val (.int im), .val (.int ib), .val (.int i0), .val (.int i1), .val (.int i2), .val (.long ga), .second, .val (.int (im &&& (3 : Int32))), .val (.int (0 : Int32)), .val (.int (0 : Int32)), .val (.ref b1), .val (.long (ib.toInt64)), .second, .val (.long f0), .second, .val (.long s1), .second, .val (.long f1), .second, .val (.long s2), .second, .val (.long f2), .second, .val (.ref b48), .val (.ref b52), .val (.ref b57), .unset, .unset, .unset] [(.int (2 : Int32)), (.ref b52)])) _
    refine XS.lload X65.here hx rfl (hb hby at_190) rfl ?_
    show Steps p.tables e below (T65.setTop (mkF m 192 #[.val (.int im), .val (.int ib), .val (.int i0), .val (.int i1), .val (.int i2), .val (.long ga), .second, .val (.int (im &&& (3 : Int32))), .val (.int (0 : Int32)), .val (.int (0 : Int32)), .val (.ref b1), .val (.long (ib.toInt64)), .second, .val (.long f0), .second, .val (.long s1), .second, .val (.long f1), .second, .val (.long s2), .second, .val (.long f2), .second, .val (.ref b48), .val (.ref b52), .val (.ref b57), .unset, .unset, .unset] [(.long f0), (.int (2 : Int32)), (.ref b52)])) _
    refine XS.l2dS X65.here hx rfl (hb hby at_192) rfl rfl ?_
    refine st75 _ ?_
    refine XS.aload X75.here hx rfl (hb hby at_194) rfl rfl ?_
    refine XS.aload X75.here hx rfl (hb hby at_196) rfl rfl ?_
    refine XS.iconst X75.here hx rfl (hb hby at_198) ?_
    show Steps p.tables e below (T75.setTop (mkF m 199 #[.val (.int im), .val (.int ib), .val (.int i0), .val (.int i1), .val (.int i2), .val (.long ga), .second, .val (.int (im &&& (3 : Int32))), .val (.int (0 : Int32)), .val (.int (0 : Int32)), .val (.ref b1), .val (.long (ib.toInt64)), .second, .val (.long f0), .second, .val (.long s1), .second, .val (.long f1), .second, .val (.long s2), .second, .val (.long f2), .second, .val (.ref b48), .val (.ref b52), .val (.ref b57), .unset, .unset, .unset] [(.int (0 : Int32)), (.ref b1), (.ref b57)])) _
    refine X75.iaload hx (j := (0 : Int32)) (v := (.int (2 : Int32))) (by rw [e75]; exact Arq83.1) (State.isArrayOf_alike hZ.alike Arq83.2.1) Arq83.2.2 hiq83 haq83 (g := (mkF m 199 #[.val (.int im), .val (.int ib), .val (.int i0), .val (.int i1), .val (.int i2), .val (.long ga), .second, .val (.int (im &&& (3 : Int32))), .val (.int (0 : Int32)), .val (.int (0 : Int32)), .val (.ref b1), .val (.long (ib.toInt64)), .second, .val (.long f0), .second, .val (.long s1), .second, .val (.long f1), .second, .val (.long s2), .second, .val (.long f2), .second, .val (.ref b48), .val (.ref b52), .val (.ref b57), .unset, .unset, .unset] [(.int (0 : Int32)), (.ref b1), (.ref b57)])) rfl rfl (hb hby at_199) _ ?_
    refine XS.lload X75.here hx rfl (hb hby at_200) rfl ?_
    refine st85 _ ?_
    refine XS.aload X85.here hx rfl (hb hby at_203) rfl rfl ?_
    refine XS.aload X85.here hx rfl (hb hby at_205) rfl rfl ?_
    refine XS.iconst X85.here hx rfl (hb hby at_207) ?_
    show Steps p.tables e below (T85.setTop (mkF m 208 #[.val (.int im), .val (.int ib), .val (.int i0), .val (.int i1), .val (.int i2), .val (.long ga), .second, .val (.int (im &&& (3 : Int32))), .val (.int (0 : Int32)), .val (.int (0 : Int32)), .val (.ref b1), .val (.long (ib.toInt64)), .second, .val (.long f0), .second, .val (.long s1), .second, .val (.long f1), .second, .val (.long s2), .second, .val (.long f2), .second, .val (.ref b48), .val (.ref b52), .val (.ref b57), .unset, .unset, .unset] [(.int (1 : Int32)), (.ref b1), (.ref b48)])) _
    refine X85.iaload hx (j := (1 : Int32)) (v := (.int (1 : Int32))) (by rw [e85]; exact Arq93.1) (State.isArrayOf_alike hZ.alike Arq93.2.1) Arq93.2.2 hiq93 haq93 (g := (mkF m 208 #[.val (.int im), .val (.int ib), .val (.int i0), .val (.int i1), .val (.int i2), .val (.long ga), .second, .val (.int (im &&& (3 : Int32))), .val (.int (0 : Int32)), .val (.int (0 : Int32)), .val (.ref b1), .val (.long (ib.toInt64)), .second, .val (.long f0), .second, .val (.long s1), .second, .val (.long f1), .second, .val (.long s2), .second, .val (.long f2), .second, .val (.ref b48), .val (.ref b52), .val (.ref b57), .unset, .unset, .unset] [(.int (1 : Int32)), (.ref b1), (.ref b48)])) rfl rfl (hb hby at_208) _ ?_
    refine XS.lload X85.here hx rfl (hb hby at_209) rfl ?_
    show Steps p.tables e below (T85.setTop (mkF m 211 #[.val (.int im), .val (.int ib), .val (.int i0), .val (.int i1), .val (.int i2), .val (.long ga), .second, .val (.int (im &&& (3 : Int32))), .val (.int (0 : Int32)), .val (.int (0 : Int32)), .val (.ref b1), .val (.long (ib.toInt64)), .second, .val (.long f0), .second, .val (.long s1), .second, .val (.long f1), .second, .val (.long s2), .second, .val (.long f2), .second, .val (.ref b48), .val (.ref b52), .val (.ref b57), .unset, .unset, .unset] [(.long s1), (.int (1 : Int32)), (.ref b48)])) _
    refine XS.l2dS X85.here hx rfl (hb hby at_211) rfl rfl ?_
    refine st95 _ ?_
    refine XS.aload X95.here hx rfl (hb hby at_213) rfl rfl ?_
    refine XS.aload X95.here hx rfl (hb hby at_215) rfl rfl ?_
    show Steps p.tables e below (T95.setTop (mkF m 217 #[.val (.int im), .val (.int ib), .val (.int i0), .val (.int i1), .val (.int i2), .val (.long ga), .second, .val (.int (im &&& (3 : Int32))), .val (.int (0 : Int32)), .val (.int (0 : Int32)), .val (.ref b1), .val (.long (ib.toInt64)), .second, .val (.long f0), .second, .val (.long s1), .second, .val (.long f1), .second, .val (.long s2), .second, .val (.long f2), .second, .val (.ref b48), .val (.ref b52), .val (.ref b57), .unset, .unset, .unset] [(.ref b1), (.ref b52)])) _
    refine XS.iconst X95.here hx rfl (hb hby at_217) ?_
    refine X95.iaload hx (j := (1 : Int32)) (v := (.int (1 : Int32))) (by rw [e95]; exact Arq103.1) (State.isArrayOf_alike hZ.alike Arq103.2.1) Arq103.2.2 hiq103 haq103 (g := (mkF m 218 #[.val (.int im), .val (.int ib), .val (.int i0), .val (.int i1), .val (.int i2), .val (.long ga), .second, .val (.int (im &&& (3 : Int32))), .val (.int (0 : Int32)), .val (.int (0 : Int32)), .val (.ref b1), .val (.long (ib.toInt64)), .second, .val (.long f0), .second, .val (.long s1), .second, .val (.long f1), .second, .val (.long s2), .second, .val (.long f2), .second, .val (.ref b48), .val (.ref b52), .val (.ref b57), .unset, .unset, .unset] [(.int (1 : Int32)), (.ref b1), (.ref b52)])) rfl rfl (hb hby at_218) _ ?_
    refine XS.lload X95.here hx rfl (hb hby at_219) rfl ?_
    show Steps p.tables e below (T95.setTop (mkF m 221 #[.val (.int im), .val (.int ib), .val (.int i0), .val (.int i1), .val (.int i2), .val (.long ga), .second, .val (.int (im &&& (3 : Int32))), .val (.int (0 : Int32)), .val (.int (0 : Int32)), .val (.ref b1), .val (.long (ib.toInt64)), .second, .val (.long f0), .second, .val (.long s1), .second, .val (.long f1), .second, .val (.long s2), .second, .val (.long f2), .second, .val (.ref b48), .val (.ref b52), .val (.ref b57), .unset, .unset, .unset] [(.long f1), (.int (1 : Int32)), (.ref b52)])) _
    refine XS.l2dS X95.here hx rfl (hb hby at_221) rfl rfl ?_
    refine st105 _ ?_
    refine XS.aload X105.here hx rfl (hb hby at_223) rfl rfl ?_
    show Steps p.tables e below (T105.setTop (mkF m 225 #[.val (.int im), .val (.int ib), .val (.int i0), .val (.int i1), .val (.int i2), .val (.long ga), .second, .val (.int (im &&& (3 : Int32))), .val (.int (0 : Int32)), .val (.int (0 : Int32)), .val (.ref b1), .val (.long (ib.toInt64)), .second, .val (.long f0), .second, .val (.long s1), .second, .val (.long f1), .second, .val (.long s2), .second, .val (.long f2), .second, .val (.ref b48), .val (.ref b52), .val (.ref b57), .unset, .unset, .unset] [(.ref b57)])) _
    refine XS.aload X105.here hx rfl (hb hby at_225) rfl rfl ?_
    refine XS.iconst X105.here hx rfl (hb hby at_227) ?_
    refine X105.iaload hx (j := (1 : Int32)) (v := (.int (1 : Int32))) (by rw [e105]; exact Arq113.1) (State.isArrayOf_alike hZ.alike Arq113.2.1) Arq113.2.2 hiq113 haq113 (g := (mkF m 228 #[.val (.int im), .val (.int ib), .val (.int i0), .val (.int i1), .val (.int i2), .val (.long ga), .second, .val (.int (im &&& (3 : Int32))), .val (.int (0 : Int32)), .val (.int (0 : Int32)), .val (.ref b1), .val (.long (ib.toInt64)), .second, .val (.long f0), .second, .val (.long s1), .second, .val (.long f1), .second, .val (.long s2), .second, .val (.long f2), .second, .val (.ref b48), .val (.ref b52), .val (.ref b57), .unset, .unset, .unset] [(.int (1 : Int32)), (.ref b1), (.ref b57)])) rfl rfl (hb hby at_228) _ ?_
    refine XS.lload X105.here hx rfl (hb hby at_229) rfl ?_
    refine st115 _ ?_
    refine XS.aload X115.here hx rfl (hb hby at_232) rfl rfl ?_
    show Steps p.tables e below (T115.setTop (mkF m 234 #[.val (.int im), .val (.int ib), .val (.int i0), .val (.int i1), .val (.int i2), .val (.long ga), .second, .val (.int (im &&& (3 : Int32))), .val (.int (0 : Int32)), .val (.int (0 : Int32)), .val (.ref b1), .val (.long (ib.toInt64)), .second, .val (.long f0), .second, .val (.long s1), .second, .val (.long f1), .second, .val (.long s2), .second, .val (.long f2), .second, .val (.ref b48), .val (.ref b52), .val (.ref b57), .unset, .unset, .unset] [(.ref b48)])) _
    refine XS.aload X115.here hx rfl (hb hby at_234) rfl rfl ?_
    refine XS.iconst X115.here hx rfl (hb hby at_236) ?_
    refine X115.iaload hx (j := (2 : Int32)) (v := (.int (0 : Int32))) (by rw [e115]; exact Arq123.1) (State.isArrayOf_alike hZ.alike Arq123.2.1) Arq123.2.2 hiq123 haq123 (g := (mkF m 237 #[.val (.int im), .val (.int ib), .val (.int i0), .val (.int i1), .val (.int i2), .val (.long ga), .second, .val (.int (im &&& (3 : Int32))), .val (.int (0 : Int32)), .val (.int (0 : Int32)), .val (.ref b1), .val (.long (ib.toInt64)), .second, .val (.long f0), .second, .val (.long s1), .second, .val (.long f1), .second, .val (.long s2), .second, .val (.long f2), .second, .val (.ref b48), .val (.ref b52), .val (.ref b57), .unset, .unset, .unset] [(.int (2 : Int32)), (.ref b1), (.ref b48)])) rfl rfl (hb hby at_237) _ ?_
    refine XS.lload X115.here hx rfl (hb hby at_238) rfl ?_
    show Steps p.tables e below (T115.setTop (mkF m 240 #[.val (.int im), .val (.int ib), .val (.int i0), .val (.int i1), .val (.int i2), .val (.long ga), .second, .val (.int (im &&& (3 : Int32))), .val (.int (0 : Int32)), .val (.int (0 : Int32)), .val (.ref b1), .val (.long (ib.toInt64)), .second, .val (.long f0), .second, .val (.long s1), .second, .val (.long f1), .second, .val (.long s2), .second, .val (.long f2), .second, .val (.ref b48), .val (.ref b52), .val (.ref b57), .unset, .unset, .unset] [(.long s2), (.int (0 : Int32)), (.ref b48)])) _
    refine XS.l2dS X115.here hx rfl (hb hby at_240) rfl rfl ?_
    refine st125 _ ?_
    show Steps p.tables e below (T125.setTop (mkF m 242 #[.val (.int im), .val (.int ib), .val (.int i0), .val (.int i1), .val (.int i2), .val (.long ga), .second, .val (.int (im &&& (3 : Int32))), .val (.int (0 : Int32)), .val (.int (0 : Int32)), .val (.ref b1), .val (.long (ib.toInt64)), .second, .val (.long f0), .second, .val (.long s1), .second, .val (.long f1), .second, .val (.long s2), .second, .val (.long f2), .second, .val (.ref b48), .val (.ref b52), .val (.ref b57), .unset, .unset, .unset] [])) _
    refine XS.aload X125.here hx rfl (hb hby at_242) rfl rfl ?_
    refine XS.aload X125.here hx rfl (hb hby at_244) rfl rfl ?_
    refine XS.iconst X125.here hx rfl (hb hby at_246) ?_
    refine X125.iaload hx (j := (2 : Int32)) (v := (.int (0 : Int32))) (by rw [e125]; exact Arq133.1) (State.isArrayOf_alike hZ.alike Arq133.2.1) Arq133.2.2 hiq133 haq133 (g := (mkF m 247 #[.val (.int im), .val (.int ib), .val (.int i0), .val (.int i1), .val (.int i2), .val (.long ga), .second, .val (.int (im &&& (3 : Int32))), .val (.int (0 : Int32)), .val (.int (0 : Int32)), .val (.ref b1), .val (.long (ib.toInt64)), .second, .val (.long f0), .second, .val (.long s1), .second, .val (.long f1), .second, .val (.long s2), .second, .val (.long f2), .second, .val (.ref b48), .val (.ref b52), .val (.ref b57), .unset, .unset, .unset] [(.int (2 : Int32)), (.ref b1), (.ref b52)])) rfl rfl (hb hby at_247) _ ?_
    refine XS.lload X125.here hx rfl (hb hby at_248) rfl ?_
    show Steps p.tables e below (T125.setTop (mkF m 250 #[.val (.int im), .val (.int ib), .val (.int i0), .val (.int i1), .val (.int i2), .val (.long ga), .second, .val (.int (im &&& (3 : Int32))), .val (.int (0 : Int32)), .val (.int (0 : Int32)), .val (.ref b1), .val (.long (ib.toInt64)), .second, .val (.long f0), .second, .val (.long s1), .second, .val (.long f1), .second, .val (.long s2), .second, .val (.long f2), .second, .val (.ref b48), .val (.ref b52), .val (.ref b57), .unset, .unset, .unset] [(.long f2), (.int (0 : Int32)), (.ref b52)])) _
    refine XS.l2dS X125.here hx rfl (hb hby at_250) rfl rfl ?_
    show Steps p.tables e below (T125.setTop (mkF m 251 #[.val (.int im), .val (.int ib), .val (.int i0), .val (.int i1), .val (.int i2), .val (.long ga), .second, .val (.int (im &&& (3 : Int32))), .val (.int (0 : Int32)), .val (.int (0 : Int32)), .val (.ref b1), .val (.long (ib.toInt64)), .second, .val (.long f0), .second, .val (.long s1), .second, .val (.long f1), .second, .val (.long s2), .second, .val (.long f2), .second, .val (.ref b48), .val (.ref b52), .val (.ref b57), .unset, .unset, .unset] [(.double (FP.l2d f2)), (.int (0 : Int32)), (.ref b52)])) _
    refine st135 _ ?_
    refine XS.aload X135.here hx rfl (hb hby at_252) rfl rfl ?_
    refine XS.aload X135.here hx rfl (hb hby at_254) rfl rfl ?_
    refine XS.iconst X135.here hx rfl (hb hby at_256) ?_
    refine X135.iaload hx (j := (2 : Int32)) (v := (.int (0 : Int32))) (by rw [e135]; exact Arq143.1) (State.isArrayOf_alike hZ.alike Arq143.2.1) Arq143.2.2 hiq143 haq143 (g := (mkF m 257 #[.val (.int im), .val (.int ib), .val (.int i0), .val (.int i1), .val (.int i2), .val (.long ga), .second, .val (.int (im &&& (3 : Int32))), .val (.int (0 : Int32)), .val (.int (0 : Int32)), .val (.ref b1), .val (.long (ib.toInt64)), .second, .val (.long f0), .second, .val (.long s1), .second, .val (.long f1), .second, .val (.long s2), .second, .val (.long f2), .second, .val (.ref b48), .val (.ref b52), .val (.ref b57), .unset, .unset, .unset] [(.int (2 : Int32)), (.ref b1), (.ref b57)])) rfl rfl (hb hby at_257) _ ?_
    refine XS.lload X135.here hx rfl (hb hby at_258) rfl ?_
    show Steps p.tables e below (T135.setTop (mkF m 260 #[.val (.int im), .val (.int ib), .val (.int i0), .val (.int i1), .val (.int i2), .val (.long ga), .second, .val (.int (im &&& (3 : Int32))), .val (.int (0 : Int32)), .val (.int (0 : Int32)), .val (.ref b1), .val (.long (ib.toInt64)), .second, .val (.long f0), .second, .val (.long s1), .second, .val (.long f1), .second, .val (.long s2), .second, .val (.long f2), .second, .val (.ref b48), .val (.ref b52), .val (.ref b57), .unset, .unset, .unset] [(.long f2), (.int (0 : Int32)), (.ref b57)])) _
    refine st145 _ ?_
    refine st153 _ ?_
    refine XS.dup X153.here hx rfl (hb hby at_264) rfl rfl ?_
    refine XS.aload X153.here hx rfl (hb hby at_265) rfl rfl ?_
    refine XS.aload X153.here hx rfl (hb hby at_267) rfl rfl ?_
    refine st160.trans ?_
    show Steps p.tables e below (T160.setTop (mkF m 272 #[.val (.int im), .val (.int ib), .val (.int i0), .val (.int i1), .val (.int i2), .val (.long ga), .second, .val (.int (im &&& (3 : Int32))), .val (.int (0 : Int32)), .val (.int (0 : Int32)), .val (.ref b1), .val (.long (ib.toInt64)), .second, .val (.long f0), .second, .val (.long s1), .second, .val (.long f1), .second, .val (.long s2), .second, .val (.long f2), .second, .val (.ref b48), .val (.ref b52), .val (.ref b57), .unset, .unset, .unset] [(.ref b153)])) _
    refine XS.astore X160.here hx rfl (hb hby at_272) rfl rfl (l' := #[.val (.int im), .val (.int ib), .val (.int i0), .val (.int i1), .val (.int i2), .val (.long ga), .second, .val (.int (im &&& (3 : Int32))), .val (.int (0 : Int32)), .val (.int (0 : Int32)), .val (.ref b1), .val (.long (ib.toInt64)), .second, .val (.long f0), .second, .val (.long s1), .second, .val (.long f1), .second, .val (.long s2), .second, .val (.long f2), .second, .val (.ref b48), .val (.ref b52), .val (.ref b57), .val (.ref b153), .unset, .unset]) rfl ?_
    exact kt
  rcases own_n4 im with hn | hn | hn | hn
  · have k169 : ∀ tq, Steps p.tables e below (T160.setTop (mkF m 274 #[.val (.int im), .val (.int ib), .val (.int i0), .val (.int i1), .val (.int i2), .val (.long ga), .second, .val (.int (0 : Int32)), .val (.int (0 : Int32)), .val (.int (0 : Int32)), .val (.ref b1), .val (.long (ib.toInt64)), .second, .val (.long f0), .second, .val (.long s1), .second, .val (.long f1), .second, .val (.long s2), .second, .val (.long f2), .second, .val (.ref b48), .val (.ref b52), .val (.ref b57), .val (.ref b153), .unset, .unset] [])) tq → Steps p.tables e below (s₁.setTop (entryFrame m #[(.int im), (.int ib), (.int i0), (.int i1), (.int i2), (.long ga)] maxLocals)) tq := by
      intro tq kt
      refine k168 tq ?_
      rw [hn]
      exact kt
    obtain ⟨cq170, kq170, q170a, q170b, q170c⟩ := isOf hZ rfl Eo160
    obtain ⟨_, _, ⟨T170, L170, k170, n170⟩, -, X170, ⟨Lc170, hQ170, l170, y170, z170⟩, st170⟩ := X160.virtualBack hx (y := (⟨"com/example/makespun/makespun/simulate/Timeline", "freeAt", "()D"⟩ : MethodName)) (z := (⟨"com/example/makespun/makespun/simulate/Timeline", "freeAt", "()D"⟩ : MethodName)) hown (mvT hZ (hw _ (List.mem_of_getElem? (i := 20) rfl))) (mvT hZ (hw _ (List.mem_of_getElem? (i := 21) rfl))) (notFace_of_selects (args := #[]) (mvT hZ (hw _ (List.mem_of_getElem? (i := 23) rfl)))) (mvT hZ (hw _ (List.mem_of_getElem? (i := 23) rfl))) (mvT hZ (hw _ (List.mem_of_getElem? (i := 22) rfl))) (by decide) (backOf (W := 0) (rmF0 l Z a0 hw [] b153 T160.heap n0 z166 Fs160) hZ (hw _ (List.mem_of_getElem? (i := 24) rfl)) (hw _ (List.mem_of_getElem? (i := 7) rfl)) (by decide) (by decide)) q170a q170c (g := (mkF m 382 #[.val (.int im), .val (.int ib), .val (.int i0), .val (.int i1), .val (.int i2), .val (.long ga), .second, .val (.int (0 : Int32)), .val (.int (0 : Int32)), .val (.int (0 : Int32)), .val (.ref b1), .val (.long (ib.toInt64)), .second, .val (.long f0), .second, .val (.long s1), .second, .val (.long f1), .second, .val (.long s2), .second, .val (.long f2), .second, .val (.ref b48), .val (.ref b52), .val (.ref b57), .val (.ref b153), .val (.long (0 : Int64)), .second] [(.ref b153)])) rfl (by rw [hml]; rfl) (Steps.refl _) (argsL := []) (rest := []) (lenOf pd_2 rfl) rfl (by show 2 * 0 + _ ≤ _; exact Nat.le_of_eq rfl) (hb hby at_382) (fun _ _ => ⟨rfl, rfl, (by decide : 6 + 0 ≤ _), (by decide : 21 + 0 ≤ _)⟩)
    dsimp only [Pt.U, Pt.locs, Pt.cells, Pt.slots] at X170 l170 y170 z170 st170 hQ170
    replace X170 := own_cast X170 l170 y170 z170
    obtain ⟨hv170, N170q, e170⟩ := hQ170
    rw [hv170] at st170
    have N170 := Fr.app N160 N170q
    obtain ⟨fs, hr, hrun, hended, hW, hsame⟩ := X170.leave (v := some (.int (1 : Int32))) (fun h => by rw [Bd.returns] at h; cases h)
    refine ⟨_, _, k169 _ ?_, hrun, hended, _, _, rfl, ?_, ⟨_, rfl⟩, hW, hsame.mono (by decide) (by decide)⟩
    · refine XS.iload X160.here hx rfl (hb hby at_274) rfl ?_
      refine XS.iconst X160.here hx rfl (hb hby at_276) ?_
      show Steps p.tables e below (T160.setTop (mkF m 277 #[.val (.int im), .val (.int ib), .val (.int i0), .val (.int i1), .val (.int i2), .val (.long ga), .second, .val (.int (0 : Int32)), .val (.int (0 : Int32)), .val (.int (0 : Int32)), .val (.ref b1), .val (.long (ib.toInt64)), .second, .val (.long f0), .second, .val (.long s1), .second, .val (.long f1), .second, .val (.long s2), .second, .val (.long f2), .second, .val (.ref b48), .val (.ref b52), .val (.ref b57), .val (.ref b153), .unset, .unset] [(.int (1 : Int32)), (.int (0 : Int32))])) _
      refine XS.icmpYes X160.here hx rfl (pc0 := 277) (pc' := 287) rfl (hb hby at_277) rfl (tlt (by decide : ((0 : Int32) < (1 : Int32)))).1 (by decide) (by decide) ?_
      refine XS.iload X160.here hx rfl (hb hby at_287) rfl ?_
      refine XS.iconst X160.here hx rfl (hb hby at_289) ?_
      show Steps p.tables e below (T160.setTop (mkF m 290 #[.val (.int im), .val (.int ib), .val (.int i0), .val (.int i1), .val (.int i2), .val (.long ga), .second, .val (.int (0 : Int32)), .val (.int (0 : Int32)), .val (.int (0 : Int32)), .val (.ref b1), .val (.long (ib.toInt64)), .second, .val (.long f0), .second, .val (.long s1), .second, .val (.long f1), .second, .val (.long s2), .second, .val (.long f2), .second, .val (.ref b48), .val (.ref b52), .val (.ref b57), .val (.ref b153), .unset, .unset] [(.int (2 : Int32)), (.int (0 : Int32))])) _
      refine XS.icmpYes X160.here hx rfl (pc0 := 290) (pc' := 309) rfl (hb hby at_290) rfl (tlt (by decide : ((0 : Int32) < (2 : Int32)))).1 (by decide) (by decide) ?_
      refine XS.iload X160.here hx rfl (hb hby at_309) rfl ?_
      show Steps p.tables e below (T160.setTop (mkF m 311 #[.val (.int im), .val (.int ib), .val (.int i0), .val (.int i1), .val (.int i2), .val (.long ga), .second, .val (.int (0 : Int32)), .val (.int (0 : Int32)), .val (.int (0 : Int32)), .val (.ref b1), .val (.long (ib.toInt64)), .second, .val (.long f0), .second, .val (.long s1), .second, .val (.long f1), .second, .val (.long s2), .second, .val (.long f2), .second, .val (.ref b48), .val (.ref b52), .val (.ref b57), .val (.ref b153), .unset, .unset] [(.int (0 : Int32))])) _
      refine XS.iconst X160.here hx rfl (hb hby at_311) ?_
      show Steps p.tables e below (T160.setTop (mkF m 312 #[.val (.int im), .val (.int ib), .val (.int i0), .val (.int i1), .val (.int i2), .val (.long ga), .second, .val (.int (0 : Int32)), .val (.int (0 : Int32)), .val (.int (0 : Int32)), .val (.ref b1), .val (.long (ib.toInt64)), .second, .val (.long f0), .second, .val (.long s1), .second, .val (.long f1), .second, .val (.long s2), .second, .val (.long f2), .second, .val (.ref b48), .val (.ref b52), .val (.ref b57), .val (.ref b153), .unset, .unset] [(.int (3 : Int32)), (.int (0 : Int32))])) _
      refine XS.icmpYes X160.here hx rfl (pc0 := 312) (pc' := 331) rfl (hb hby at_312) rfl (feq (by decide : ¬ ((0 : Int32) = (3 : Int32)))).2 (by decide) (by decide) ?_
      refine XS.lconst X160.here hx rfl (hb hby at_331) ?_
      refine XS.lstore X160.here hx rfl (hb hby at_332) rfl (l' := #[.val (.int im), .val (.int ib), .val (.int i0), .val (.int i1), .val (.int i2), .val (.long ga), .second, .val (.int (0 : Int32)), .val (.int (0 : Int32)), .val (.int (0 : Int32)), .val (.ref b1), .val (.long (ib.toInt64)), .second, .val (.long f0), .second, .val (.long s1), .second, .val (.long f1), .second, .val (.long s2), .second, .val (.long f2), .second, .val (.ref b48), .val (.ref b52), .val (.ref b57), .val (.ref b153), .val (.long (0 : Int64)), .second]) rfl ?_
      refine XS.iload X160.here hx rfl (hb hby at_334) rfl ?_
      refine XS.iconst X160.here hx rfl (hb hby at_336) ?_
      show Steps p.tables e below (T160.setTop (mkF m 337 #[.val (.int im), .val (.int ib), .val (.int i0), .val (.int i1), .val (.int i2), .val (.long ga), .second, .val (.int (0 : Int32)), .val (.int (0 : Int32)), .val (.int (0 : Int32)), .val (.ref b1), .val (.long (ib.toInt64)), .second, .val (.long f0), .second, .val (.long s1), .second, .val (.long f1), .second, .val (.long s2), .second, .val (.long f2), .second, .val (.ref b48), .val (.ref b52), .val (.ref b57), .val (.ref b153), .val (.long (0 : Int64)), .second] [(.int (1 : Int32)), (.int (0 : Int32))])) _
      refine XS.icmpYes X160.here hx rfl (pc0 := 337) (pc' := 346) rfl (hb hby at_337) rfl (tlt (by decide : ((0 : Int32) < (1 : Int32)))).1 (by decide) (by decide) ?_
      refine XS.iload X160.here hx rfl (hb hby at_346) rfl ?_
      show Steps p.tables e below (T160.setTop (mkF m 348 #[.val (.int im), .val (.int ib), .val (.int i0), .val (.int i1), .val (.int i2), .val (.long ga), .second, .val (.int (0 : Int32)), .val (.int (0 : Int32)), .val (.int (0 : Int32)), .val (.ref b1), .val (.long (ib.toInt64)), .second, .val (.long f0), .second, .val (.long s1), .second, .val (.long f1), .second, .val (.long s2), .second, .val (.long f2), .second, .val (.ref b48), .val (.ref b52), .val (.ref b57), .val (.ref b153), .val (.long (0 : Int64)), .second] [(.int (0 : Int32))])) _
      refine XS.iconst X160.here hx rfl (hb hby at_348) ?_
      show Steps p.tables e below (T160.setTop (mkF m 349 #[.val (.int im), .val (.int ib), .val (.int i0), .val (.int i1), .val (.int i2), .val (.long ga), .second, .val (.int (0 : Int32)), .val (.int (0 : Int32)), .val (.int (0 : Int32)), .val (.ref b1), .val (.long (ib.toInt64)), .second, .val (.long f0), .second, .val (.long s1), .second, .val (.long f1), .second, .val (.long s2), .second, .val (.long f2), .second, .val (.ref b48), .val (.ref b52), .val (.ref b57), .val (.ref b153), .val (.long (0 : Int64)), .second] [(.int (2 : Int32)), (.int (0 : Int32))])) _
      refine XS.icmpYes X160.here hx rfl (pc0 := 349) (pc' := 363) rfl (hb hby at_349) rfl (tlt (by decide : ((0 : Int32) < (2 : Int32)))).1 (by decide) (by decide) ?_
      refine XS.iload X160.here hx rfl (hb hby at_363) rfl ?_
      refine XS.iconst X160.here hx rfl (hb hby at_365) ?_
      show Steps p.tables e below (T160.setTop (mkF m 366 #[.val (.int im), .val (.int ib), .val (.int i0), .val (.int i1), .val (.int i2), .val (.long ga), .second, .val (.int (0 : Int32)), .val (.int (0 : Int32)), .val (.int (0 : Int32)), .val (.ref b1), .val (.long (ib.toInt64)), .second, .val (.long f0), .second, .val (.long s1), .second, .val (.long f1), .second, .val (.long s2), .second, .val (.long f2), .second, .val (.ref b48), .val (.ref b52), .val (.ref b57), .val (.ref b153), .val (.long (0 : Int64)), .second] [(.int (3 : Int32)), (.int (0 : Int32))])) _
      refine XS.icmpYes X160.here hx rfl (pc0 := 366) (pc' := 380) rfl (hb hby at_366) rfl (feq (by decide : ¬ ((0 : Int32) = (3 : Int32)))).2 (by decide) (by decide) ?_
      refine XS.aload X160.here hx rfl (hb hby at_380) rfl rfl ?_
      refine st170.trans ?_
      refine XS.lload X170.here hx rfl (hb hby at_385) rfl ?_
      show Steps p.tables e below (T170.setTop (mkF m 387 #[.val (.int im), .val (.int ib), .val (.int i0), .val (.int i1), .val (.int i2), .val (.long ga), .second, .val (.int (0 : Int32)), .val (.int (0 : Int32)), .val (.int (0 : Int32)), .val (.ref b1), .val (.long (ib.toInt64)), .second, .val (.long f0), .second, .val (.long s1), .second, .val (.long f1), .second, .val (.long s2), .second, .val (.long f2), .second, .val (.ref b48), .val (.ref b52), .val (.ref b57), .val (.ref b153), .val (.long (0 : Int64)), .second] [(.long (0 : Int64)), (.double FP.dconst0)])) _
      refine XS.l2dS X170.here hx rfl (hb hby at_387) rfl rfl ?_
      show Steps p.tables e below (T170.setTop (mkF m 388 #[.val (.int im), .val (.int ib), .val (.int i0), .val (.int i1), .val (.int i2), .val (.long ga), .second, .val (.int (0 : Int32)), .val (.int (0 : Int32)), .val (.int (0 : Int32)), .val (.ref b1), .val (.long (ib.toInt64)), .second, .val (.long f0), .second, .val (.long s1), .second, .val (.long f1), .second, .val (.long s2), .second, .val (.long f2), .second, .val (.ref b48), .val (.ref b52), .val (.ref b57), .val (.ref b153), .val (.long (0 : Int64)), .second] [(.double (FP.l2d (0 : Int64))), (.double FP.dconst0)])) _
      refine XS.dcmpS X170.here hx rfl (hb hby at_388) rfl (v := (0 : Int32)) own_cmp0 ?_
      show Steps p.tables e below (T170.setTop (mkF m 389 #[.val (.int im), .val (.int ib), .val (.int i0), .val (.int i1), .val (.int i2), .val (.long ga), .second, .val (.int (0 : Int32)), .val (.int (0 : Int32)), .val (.int (0 : Int32)), .val (.ref b1), .val (.long (ib.toInt64)), .second, .val (.long f0), .second, .val (.long s1), .second, .val (.long f1), .second, .val (.long s2), .second, .val (.long f2), .second, .val (.ref b48), .val (.ref b52), .val (.ref b57), .val (.ref b153), .val (.long (0 : Int64)), .second] [(.int (0 : Int32))])) _
      refine XS.ifNo X170.here hx rfl (hb hby at_389) rfl ((if0 _ _).trans (teq (by decide : ((0 : Int32) = (0 : Int32)))).2) ?_
      refine XS.iconst X170.here hx rfl (hb hby at_392) ?_
      refine XS.goto X170.here hx rfl (pc0 := 393) (pc' := 397) rfl (hb hby at_393) (by decide) (by decide) ?_
      show Steps p.tables e below (T170.setTop (mkF m 397 #[.val (.int im), .val (.int ib), .val (.int i0), .val (.int i1), .val (.int i2), .val (.long ga), .second, .val (.int (0 : Int32)), .val (.int (0 : Int32)), .val (.int (0 : Int32)), .val (.ref b1), .val (.long (ib.toInt64)), .second, .val (.long f0), .second, .val (.long s1), .second, .val (.long f1), .second, .val (.long s2), .second, .val (.long f2), .second, .val (.ref b48), .val (.ref b52), .val (.ref b57), .val (.ref b153), .val (.long (0 : Int64)), .second] [(.int (1 : Int32))])) _
      exact retN X170 hx (t := .boolean) Bd.returns (by simp) (hb hby at_397) hr
    · show own_Q0 Z im ib i0 i1 i2 ga h0 n0 _ T170.heap _
      rw [e170]
      exact ⟨rfl, N170⟩
  · have k171 : ∀ tq, Steps p.tables e below (T160.setTop (mkF m 274 #[.val (.int im), .val (.int ib), .val (.int i0), .val (.int i1), .val (.int i2), .val (.long ga), .second, .val (.int (1 : Int32)), .val (.int (0 : Int32)), .val (.int (0 : Int32)), .val (.ref b1), .val (.long (ib.toInt64)), .second, .val (.long f0), .second, .val (.long s1), .second, .val (.long f1), .second, .val (.long s2), .second, .val (.long f2), .second, .val (.ref b48), .val (.ref b52), .val (.ref b57), .val (.ref b153), .unset, .unset] [])) tq → Steps p.tables e below (s₁.setTop (entryFrame m #[(.int im), (.int ib), (.int i0), (.int i1), (.int i2), (.long ga)] maxLocals)) tq := by
      intro tq kt
      refine k168 tq ?_
      rw [hn]
      exact kt
    obtain ⟨cq172, kq172, q172a, q172b, q172c⟩ := isOf hZ rfl Eo160
    obtain ⟨_, _, ⟨T172, L172, k172, n172⟩, -, X172, ⟨Lc172, hQ172, l172, y172, z172⟩, st172⟩ := X160.virtualBack hx (y := (⟨"com/example/makespun/makespun/simulate/Timeline", "add", "(II)V"⟩ : MethodName)) (z := (⟨"com/example/makespun/makespun/simulate/Timeline", "add", "(II)V"⟩ : MethodName)) hown (mvT hZ (hw _ (List.mem_of_getElem? (i := 27) rfl))) (mvT hZ (hw _ (List.mem_of_getElem? (i := 28) rfl))) (notFace_of_selects (args := #[]) (mvT hZ (hw _ (List.mem_of_getElem? (i := 30) rfl)))) (mvT hZ (hw _ (List.mem_of_getElem? (i := 30) rfl))) (mvT hZ (hw _ (List.mem_of_getElem? (i := 29) rfl))) (by decide) (backOf (W := 0) (rmA00 l Z a0 hw [] b153 bt160 b52 kb160 (0 : Int32) (0 : Int32) (0 : Int32) (0 : Int32) (0 : Int32) T160.heap n0 z166 Eo160 Ft160 Fs160 Ff160 Fi160 Vt160 ne_b153_bt160 g_b153 g_bt160) hZ (hw _ (List.mem_of_getElem? (i := 31) rfl)) (hw _ (List.mem_of_getElem? (i := 7) rfl)) (by decide) (by decide)) q172a q172c (g := (mkF m 284 #[.val (.int im), .val (.int ib), .val (.int i0), .val (.int i1), .val (.int i2), .val (.long ga), .second, .val (.int (1 : Int32)), .val (.int (0 : Int32)), .val (.int (0 : Int32)), .val (.ref b1), .val (.long (ib.toInt64)), .second, .val (.long f0), .second, .val (.long s1), .second, .val (.long f1), .second, .val (.long s2), .second, .val (.long f2), .second, .val (.ref b48), .val (.ref b52), .val (.ref b57), .val (.ref b153), .unset, .unset] [(.int (0 : Int32)), (.int (0 : Int32)), (.ref b153)])) rfl (by rw [hml]; rfl) (Steps.refl _) (argsL := [(.int (0 : Int32)), (.int (0 : Int32))]) (rest := []) (lenOf pd_3 rfl) rfl (by show 2 * 0 + _ ≤ _; exact Nat.le_of_eq rfl) (hb hby at_284) (fun _ _ => ⟨rfl, rfl, (by decide : 6 + 0 ≤ _), (by decide : 21 + 0 ≤ _)⟩)
    dsimp only [Pt.U, Pt.locs, Pt.cells, Pt.slots] at X172 l172 y172 z172 st172 hQ172
    replace X172 := own_cast X172 l172 y172 z172
    obtain ⟨hv172, N172q, K172, Eo172, Ft172, Fs172, Ff172, Fi172, Vt172⟩ := hQ172
    rw [hv172] at st172
    have N172 := Fr.app N160 N172q
    have f173 := f161.keep K172 (ninS ne_b1_b153 (ninS ne_b1_bt160 nin0))
    have f174 := f162.keep K172 (ninS ne_b48_b153 (ninS ne_b48_bt160 nin0))
    have f175 := f163.keep K172 (ninS ne_b52_b153 (ninS ne_b52_bt160 nin0))
    have f176 := f164.keep K172 (ninS ne_b57_b153 (ninS ne_b57_bt160 nin0))
    have f177 := Eo160.keep K172
    have z178 := Nat.le_trans z166 K172.1
    have kp179 := Keep.trans kp167 K172 (allS (Or.inr sz_b153) (allS (Or.inr sz_bt160) all0))
    obtain ⟨clq180, Arq180, cq180, Sq180, nq180, Hq180, Gq180⟩ := id f176
    have hiq180 : ¬ ((0 : Int32) < 0 ∨ clq180.slots.size ≤ ((0 : Int32)).toNatClampNeg) := inb_of Sq180 ⟨by decide, by decide⟩
    have haq180 : clq180.slots[((0 : Int32)).toNatClampNeg]? = some (.long f2) := Hq180.at hiq180 rfl
    obtain ⟨cq181, kq181, q181a, q181b, q181c⟩ := isOf hZ rfl Eo172
    obtain ⟨_, _, ⟨T181, L181, k181, n181⟩, -, X181, ⟨Lc181, hQ181, l181, y181, z181⟩, st181⟩ := X172.virtualBack hx (y := (⟨"com/example/makespun/makespun/simulate/Timeline", "freeAt", "()D"⟩ : MethodName)) (z := (⟨"com/example/makespun/makespun/simulate/Timeline", "freeAt", "()D"⟩ : MethodName)) hown (mvT hZ (hw _ (List.mem_of_getElem? (i := 20) rfl))) (mvT hZ (hw _ (List.mem_of_getElem? (i := 21) rfl))) (notFace_of_selects (args := #[]) (mvT hZ (hw _ (List.mem_of_getElem? (i := 23) rfl)))) (mvT hZ (hw _ (List.mem_of_getElem? (i := 23) rfl))) (mvT hZ (hw _ (List.mem_of_getElem? (i := 22) rfl))) (by decide) (backOf (W := 0) (rmF10 l Z a0 hw [] b153 bt160 b52 kb160 k52 (0 : Int32) (0 : Int32) (0 : Int32) (FP.l2d f2) (FP.l2d f1) (FP.l2d f0) T172.heap n0 z178 Ft172 Fs172 Ff172 Vt172 f175) hZ (hw _ (List.mem_of_getElem? (i := 24) rfl)) (hw _ (List.mem_of_getElem? (i := 7) rfl)) (by decide) (by decide)) q181a q181c (g := (mkF m 382 #[.val (.int im), .val (.int ib), .val (.int i0), .val (.int i1), .val (.int i2), .val (.long ga), .second, .val (.int (1 : Int32)), .val (.int (0 : Int32)), .val (.int (0 : Int32)), .val (.ref b1), .val (.long (ib.toInt64)), .second, .val (.long f0), .second, .val (.long s1), .second, .val (.long f1), .second, .val (.long s2), .second, .val (.long f2), .second, .val (.ref b48), .val (.ref b52), .val (.ref b57), .val (.ref b153), .val (.long f2), .second] [(.ref b153)])) rfl (by rw [hml]; rfl) (Steps.refl _) (argsL := []) (rest := []) (lenOf pd_2 rfl) rfl (by show 2 * 0 + _ ≤ _; exact Nat.le_of_eq rfl) (hb hby at_382) (fun _ _ => ⟨rfl, rfl, (by decide : 6 + 0 ≤ _), (by decide : 21 + 0 ≤ _)⟩)
    dsimp only [Pt.U, Pt.locs, Pt.cells, Pt.slots] at X181 l181 y181 z181 st181 hQ181
    replace X181 := own_cast X181 l181 y181 z181
    obtain ⟨hv181, N181q, e181⟩ := hQ181
    rw [hv181] at st181
    have N181 := Fr.app N172 N181q
    obtain ⟨fs, hr, hrun, hended, hW, hsame⟩ := X181.leave (v := some (.int (1 : Int32))) (fun h => by rw [Bd.returns] at h; cases h)
    refine ⟨_, _, k171 _ ?_, hrun, hended, _, _, rfl, ?_, ⟨_, rfl⟩, hW, hsame.mono (by decide) (by decide)⟩
    · refine XS.iload X160.here hx rfl (hb hby at_274) rfl ?_
      refine XS.iconst X160.here hx rfl (hb hby at_276) ?_
      show Steps p.tables e below (T160.setTop (mkF m 277 #[.val (.int im), .val (.int ib), .val (.int i0), .val (.int i1), .val (.int i2), .val (.long ga), .second, .val (.int (1 : Int32)), .val (.int (0 : Int32)), .val (.int (0 : Int32)), .val (.ref b1), .val (.long (ib.toInt64)), .second, .val (.long f0), .second, .val (.long s1), .second, .val (.long f1), .second, .val (.long s2), .second, .val (.long f2), .second, .val (.ref b48), .val (.ref b52), .val (.ref b57), .val (.ref b153), .unset, .unset] [(.int (1 : Int32)), (.int (1 : Int32))])) _
      refine XS.icmpNo X160.here hx rfl (hb hby at_277) rfl (flt (by decide : ¬ ((1 : Int32) < (1 : Int32)))).1 ?_
      refine XS.aload X160.here hx rfl (hb hby at_280) rfl rfl ?_
      show Steps p.tables e below (T160.setTop (mkF m 282 #[.val (.int im), .val (.int ib), .val (.int i0), .val (.int i1), .val (.int i2), .val (.long ga), .second, .val (.int (1 : Int32)), .val (.int (0 : Int32)), .val (.int (0 : Int32)), .val (.ref b1), .val (.long (ib.toInt64)), .second, .val (.long f0), .second, .val (.long s1), .second, .val (.long f1), .second, .val (.long s2), .second, .val (.long f2), .second, .val (.ref b48), .val (.ref b52), .val (.ref b57), .val (.ref b153), .unset, .unset] [(.ref b153)])) _
      refine XS.iconst X160.here hx rfl (hb hby at_282) ?_
      refine XS.iconst X160.here hx rfl (hb hby at_283) ?_
      refine st172.trans ?_
      refine XS.iload X172.here hx rfl (hb hby at_287) rfl ?_
      refine XS.iconst X172.here hx rfl (hb hby at_289) ?_
      show Steps p.tables e below (T172.setTop (mkF m 290 #[.val (.int im), .val (.int ib), .val (.int i0), .val (.int i1), .val (.int i2), .val (.long ga), .second, .val (.int (1 : Int32)), .val (.int (0 : Int32)), .val (.int (0 : Int32)), .val (.ref b1), .val (.long (ib.toInt64)), .second, .val (.long f0), .second, .val (.long s1), .second, .val (.long f1), .second, .val (.long s2), .second, .val (.long f2), .second, .val (.ref b48), .val (.ref b52), .val (.ref b57), .val (.ref b153), .unset, .unset] [(.int (2 : Int32)), (.int (1 : Int32))])) _
      refine XS.icmpYes X172.here hx rfl (pc0 := 290) (pc' := 309) rfl (hb hby at_290) rfl (tlt (by decide : ((1 : Int32) < (2 : Int32)))).1 (by decide) (by decide) ?_
      refine XS.iload X172.here hx rfl (hb hby at_309) rfl ?_
      show Steps p.tables e below (T172.setTop (mkF m 311 #[.val (.int im), .val (.int ib), .val (.int i0), .val (.int i1), .val (.int i2), .val (.long ga), .second, .val (.int (1 : Int32)), .val (.int (0 : Int32)), .val (.int (0 : Int32)), .val (.ref b1), .val (.long (ib.toInt64)), .second, .val (.long f0), .second, .val (.long s1), .second, .val (.long f1), .second, .val (.long s2), .second, .val (.long f2), .second, .val (.ref b48), .val (.ref b52), .val (.ref b57), .val (.ref b153), .unset, .unset] [(.int (1 : Int32))])) _
      refine XS.iconst X172.here hx rfl (hb hby at_311) ?_
      show Steps p.tables e below (T172.setTop (mkF m 312 #[.val (.int im), .val (.int ib), .val (.int i0), .val (.int i1), .val (.int i2), .val (.long ga), .second, .val (.int (1 : Int32)), .val (.int (0 : Int32)), .val (.int (0 : Int32)), .val (.ref b1), .val (.long (ib.toInt64)), .second, .val (.long f0), .second, .val (.long s1), .second, .val (.long f1), .second, .val (.long s2), .second, .val (.long f2), .second, .val (.ref b48), .val (.ref b52), .val (.ref b57), .val (.ref b153), .unset, .unset] [(.int (3 : Int32)), (.int (1 : Int32))])) _
      refine XS.icmpYes X172.here hx rfl (pc0 := 312) (pc' := 331) rfl (hb hby at_312) rfl (feq (by decide : ¬ ((1 : Int32) = (3 : Int32)))).2 (by decide) (by decide) ?_
      refine XS.lconst X172.here hx rfl (hb hby at_331) ?_
      refine XS.lstore X172.here hx rfl (hb hby at_332) rfl (l' := #[.val (.int im), .val (.int ib), .val (.int i0), .val (.int i1), .val (.int i2), .val (.long ga), .second, .val (.int (1 : Int32)), .val (.int (0 : Int32)), .val (.int (0 : Int32)), .val (.ref b1), .val (.long (ib.toInt64)), .second, .val (.long f0), .second, .val (.long s1), .second, .val (.long f1), .second, .val (.long s2), .second, .val (.long f2), .second, .val (.ref b48), .val (.ref b52), .val (.ref b57), .val (.ref b153), .val (.long (0 : Int64)), .second]) rfl ?_
      refine XS.iload X172.here hx rfl (hb hby at_334) rfl ?_
      refine XS.iconst X172.here hx rfl (hb hby at_336) ?_
      show Steps p.tables e below (T172.setTop (mkF m 337 #[.val (.int im), .val (.int ib), .val (.int i0), .val (.int i1), .val (.int i2), .val (.long ga), .second, .val (.int (1 : Int32)), .val (.int (0 : Int32)), .val (.int (0 : Int32)), .val (.ref b1), .val (.long (ib.toInt64)), .second, .val (.long f0), .second, .val (.long s1), .second, .val (.long f1), .second, .val (.long s2), .second, .val (.long f2), .second, .val (.ref b48), .val (.ref b52), .val (.ref b57), .val (.ref b153), .val (.long (0 : Int64)), .second] [(.int (1 : Int32)), (.int (1 : Int32))])) _
      refine XS.icmpNo X172.here hx rfl (hb hby at_337) rfl (flt (by decide : ¬ ((1 : Int32) < (1 : Int32)))).1 ?_
      refine XS.aload X172.here hx rfl (hb hby at_340) rfl rfl ?_
      show Steps p.tables e below (T172.setTop (mkF m 342 #[.val (.int im), .val (.int ib), .val (.int i0), .val (.int i1), .val (.int i2), .val (.long ga), .second, .val (.int (1 : Int32)), .val (.int (0 : Int32)), .val (.int (0 : Int32)), .val (.ref b1), .val (.long (ib.toInt64)), .second, .val (.long f0), .second, .val (.long s1), .second, .val (.long f1), .second, .val (.long s2), .second, .val (.long f2), .second, .val (.ref b48), .val (.ref b52), .val (.ref b57), .val (.ref b153), .val (.long (0 : Int64)), .second] [(.ref b57)])) _
      refine XS.iconst X172.here hx rfl (hb hby at_342) ?_
      refine X172.laload hx (j := (0 : Int32)) (v := (.long f2)) (by exact Arq180.1) (State.isArrayOf_alike hZ.alike Arq180.2.1) Arq180.2.2 hiq180 haq180 (g := (mkF m 343 #[.val (.int im), .val (.int ib), .val (.int i0), .val (.int i1), .val (.int i2), .val (.long ga), .second, .val (.int (1 : Int32)), .val (.int (0 : Int32)), .val (.int (0 : Int32)), .val (.ref b1), .val (.long (ib.toInt64)), .second, .val (.long f0), .second, .val (.long s1), .second, .val (.long f1), .second, .val (.long s2), .second, .val (.long f2), .second, .val (.ref b48), .val (.ref b52), .val (.ref b57), .val (.ref b153), .val (.long (0 : Int64)), .second] [(.int (0 : Int32)), (.ref b57)])) rfl rfl (hb hby at_343) _ ?_
      refine XS.lstore X172.here hx rfl (hb hby at_344) rfl (l' := #[.val (.int im), .val (.int ib), .val (.int i0), .val (.int i1), .val (.int i2), .val (.long ga), .second, .val (.int (1 : Int32)), .val (.int (0 : Int32)), .val (.int (0 : Int32)), .val (.ref b1), .val (.long (ib.toInt64)), .second, .val (.long f0), .second, .val (.long s1), .second, .val (.long f1), .second, .val (.long s2), .second, .val (.long f2), .second, .val (.ref b48), .val (.ref b52), .val (.ref b57), .val (.ref b153), .val (.long f2), .second]) rfl ?_
      refine XS.iload X172.here hx rfl (hb hby at_346) rfl ?_
      refine XS.iconst X172.here hx rfl (hb hby at_348) ?_
      show Steps p.tables e below (T172.setTop (mkF m 349 #[.val (.int im), .val (.int ib), .val (.int i0), .val (.int i1), .val (.int i2), .val (.long ga), .second, .val (.int (1 : Int32)), .val (.int (0 : Int32)), .val (.int (0 : Int32)), .val (.ref b1), .val (.long (ib.toInt64)), .second, .val (.long f0), .second, .val (.long s1), .second, .val (.long f1), .second, .val (.long s2), .second, .val (.long f2), .second, .val (.ref b48), .val (.ref b52), .val (.ref b57), .val (.ref b153), .val (.long f2), .second] [(.int (2 : Int32)), (.int (1 : Int32))])) _
      refine XS.icmpYes X172.here hx rfl (pc0 := 349) (pc' := 363) rfl (hb hby at_349) rfl (tlt (by decide : ((1 : Int32) < (2 : Int32)))).1 (by decide) (by decide) ?_
      refine XS.iload X172.here hx rfl (hb hby at_363) rfl ?_
      show Steps p.tables e below (T172.setTop (mkF m 365 #[.val (.int im), .val (.int ib), .val (.int i0), .val (.int i1), .val (.int i2), .val (.long ga), .second, .val (.int (1 : Int32)), .val (.int (0 : Int32)), .val (.int (0 : Int32)), .val (.ref b1), .val (.long (ib.toInt64)), .second, .val (.long f0), .second, .val (.long s1), .second, .val (.long f1), .second, .val (.long s2), .second, .val (.long f2), .second, .val (.ref b48), .val (.ref b52), .val (.ref b57), .val (.ref b153), .val (.long f2), .second] [(.int (1 : Int32))])) _
      refine XS.iconst X172.here hx rfl (hb hby at_365) ?_
      show Steps p.tables e below (T172.setTop (mkF m 366 #[.val (.int im), .val (.int ib), .val (.int i0), .val (.int i1), .val (.int i2), .val (.long ga), .second, .val (.int (1 : Int32)), .val (.int (0 : Int32)), .val (.int (0 : Int32)), .val (.ref b1), .val (.long (ib.toInt64)), .second, .val (.long f0), .second, .val (.long s1), .second, .val (.long f1), .second, .val (.long s2), .second, .val (.long f2), .second, .val (.ref b48), .val (.ref b52), .val (.ref b57), .val (.ref b153), .val (.long f2), .second] [(.int (3 : Int32)), (.int (1 : Int32))])) _
      refine XS.icmpYes X172.here hx rfl (pc0 := 366) (pc' := 380) rfl (hb hby at_366) rfl (feq (by decide : ¬ ((1 : Int32) = (3 : Int32)))).2 (by decide) (by decide) ?_
      refine XS.aload X172.here hx rfl (hb hby at_380) rfl rfl ?_
      refine st181.trans ?_
      refine XS.lload X181.here hx rfl (hb hby at_385) rfl ?_
      show Steps p.tables e below (T181.setTop (mkF m 387 #[.val (.int im), .val (.int ib), .val (.int i0), .val (.int i1), .val (.int i2), .val (.long ga), .second, .val (.int (1 : Int32)), .val (.int (0 : Int32)), .val (.int (0 : Int32)), .val (.ref b1), .val (.long (ib.toInt64)), .second, .val (.long f0), .second, .val (.long s1), .second, .val (.long f1), .second, .val (.long s2), .second, .val (.long f2), .second, .val (.ref b48), .val (.ref b52), .val (.ref b57), .val (.ref b153), .val (.long f2), .second] [(.long f2), (.double (FP.l2d f2))])) _
      refine XS.l2dS X181.here hx rfl (hb hby at_387) rfl rfl ?_
      show Steps p.tables e below (T181.setTop (mkF m 388 #[.val (.int im), .val (.int ib), .val (.int i0), .val (.int i1), .val (.int i2), .val (.long ga), .second, .val (.int (1 : Int32)), .val (.int (0 : Int32)), .val (.int (0 : Int32)), .val (.ref b1), .val (.long (ib.toInt64)), .second, .val (.long f0), .second, .val (.long s1), .second, .val (.long f1), .second, .val (.long s2), .second, .val (.long f2), .second, .val (.ref b48), .val (.ref b52), .val (.ref b57), .val (.ref b153), .val (.long f2), .second] [(.double (FP.l2d f2)), (.double (FP.l2d f2))])) _
      refine XS.dcmpS X181.here hx rfl (hb hby at_388) rfl (v := (0 : Int32)) (own_cmp (rfl : f2 = f2)) ?_
      show Steps p.tables e below (T181.setTop (mkF m 389 #[.val (.int im), .val (.int ib), .val (.int i0), .val (.int i1), .val (.int i2), .val (.long ga), .second, .val (.int (1 : Int32)), .val (.int (0 : Int32)), .val (.int (0 : Int32)), .val (.ref b1), .val (.long (ib.toInt64)), .second, .val (.long f0), .second, .val (.long s1), .second, .val (.long f1), .second, .val (.long s2), .second, .val (.long f2), .second, .val (.ref b48), .val (.ref b52), .val (.ref b57), .val (.ref b153), .val (.long f2), .second] [(.int (0 : Int32))])) _
      refine XS.ifNo X181.here hx rfl (hb hby at_389) rfl ((if0 _ _).trans (teq (by decide : ((0 : Int32) = (0 : Int32)))).2) ?_
      refine XS.iconst X181.here hx rfl (hb hby at_392) ?_
      show Steps p.tables e below (T181.setTop (mkF m 393 #[.val (.int im), .val (.int ib), .val (.int i0), .val (.int i1), .val (.int i2), .val (.long ga), .second, .val (.int (1 : Int32)), .val (.int (0 : Int32)), .val (.int (0 : Int32)), .val (.ref b1), .val (.long (ib.toInt64)), .second, .val (.long f0), .second, .val (.long s1), .second, .val (.long f1), .second, .val (.long s2), .second, .val (.long f2), .second, .val (.ref b48), .val (.ref b52), .val (.ref b57), .val (.ref b153), .val (.long f2), .second] [(.int (1 : Int32))])) _
      refine XS.goto X181.here hx rfl (pc0 := 393) (pc' := 397) rfl (hb hby at_393) (by decide) (by decide) ?_
      show Steps p.tables e below (T181.setTop (mkF m 397 #[.val (.int im), .val (.int ib), .val (.int i0), .val (.int i1), .val (.int i2), .val (.long ga), .second, .val (.int (1 : Int32)), .val (.int (0 : Int32)), .val (.int (0 : Int32)), .val (.ref b1), .val (.long (ib.toInt64)), .second, .val (.long f0), .second, .val (.long s1), .second, .val (.long f1), .second, .val (.long s2), .second, .val (.long f2), .second, .val (.ref b48), .val (.ref b52), .val (.ref b57), .val (.ref b153), .val (.long f2), .second] [(.int (1 : Int32))])) _
      exact retN X181 hx (t := .boolean) Bd.returns (by simp) (hb hby at_397) hr
    · show own_Q0 Z im ib i0 i1 i2 ga h0 n0 _ T181.heap _
      rw [e181]
      exact ⟨rfl, N181⟩
  · have k182 : ∀ tq, Steps p.tables e below (T160.setTop (mkF m 274 #[.val (.int im), .val (.int ib), .val (.int i0), .val (.int i1), .val (.int i2), .val (.long ga), .second, .val (.int (2 : Int32)), .val (.int (0 : Int32)), .val (.int (0 : Int32)), .val (.ref b1), .val (.long (ib.toInt64)), .second, .val (.long f0), .second, .val (.long s1), .second, .val (.long f1), .second, .val (.long s2), .second, .val (.long f2), .second, .val (.ref b48), .val (.ref b52), .val (.ref b57), .val (.ref b153), .unset, .unset] [])) tq → Steps p.tables e below (s₁.setTop (entryFrame m #[(.int im), (.int ib), (.int i0), (.int i1), (.int i2), (.long ga)] maxLocals)) tq := by
      intro tq kt
      refine k168 tq ?_
      rw [hn]
      exact kt
    obtain ⟨cq183, kq183, q183a, q183b, q183c⟩ := isOf hZ rfl Eo160
    obtain ⟨_, _, ⟨T183, L183, k183, n183⟩, -, X183, ⟨Lc183, hQ183, l183, y183, z183⟩, st183⟩ := X160.virtualBack hx (y := (⟨"com/example/makespun/makespun/simulate/Timeline", "add", "(II)V"⟩ : MethodName)) (z := (⟨"com/example/makespun/makespun/simulate/Timeline", "add", "(II)V"⟩ : MethodName)) hown (mvT hZ (hw _ (List.mem_of_getElem? (i := 27) rfl))) (mvT hZ (hw _ (List.mem_of_getElem? (i := 28) rfl))) (notFace_of_selects (args := #[]) (mvT hZ (hw _ (List.mem_of_getElem? (i := 30) rfl)))) (mvT hZ (hw _ (List.mem_of_getElem? (i := 30) rfl))) (mvT hZ (hw _ (List.mem_of_getElem? (i := 29) rfl))) (by decide) (backOf (W := 0) (rmA00 l Z a0 hw [] b153 bt160 b52 kb160 (0 : Int32) (0 : Int32) (0 : Int32) (0 : Int32) (0 : Int32) T160.heap n0 z166 Eo160 Ft160 Fs160 Ff160 Fi160 Vt160 ne_b153_bt160 g_b153 g_bt160) hZ (hw _ (List.mem_of_getElem? (i := 31) rfl)) (hw _ (List.mem_of_getElem? (i := 7) rfl)) (by decide) (by decide)) q183a q183c (g := (mkF m 284 #[.val (.int im), .val (.int ib), .val (.int i0), .val (.int i1), .val (.int i2), .val (.long ga), .second, .val (.int (2 : Int32)), .val (.int (0 : Int32)), .val (.int (0 : Int32)), .val (.ref b1), .val (.long (ib.toInt64)), .second, .val (.long f0), .second, .val (.long s1), .second, .val (.long f1), .second, .val (.long s2), .second, .val (.long f2), .second, .val (.ref b48), .val (.ref b52), .val (.ref b57), .val (.ref b153), .unset, .unset] [(.int (0 : Int32)), (.int (0 : Int32)), (.ref b153)])) rfl (by rw [hml]; rfl) (Steps.refl _) (argsL := [(.int (0 : Int32)), (.int (0 : Int32))]) (rest := []) (lenOf pd_3 rfl) rfl (by show 2 * 0 + _ ≤ _; exact Nat.le_of_eq rfl) (hb hby at_284) (fun _ _ => ⟨rfl, rfl, (by decide : 6 + 0 ≤ _), (by decide : 21 + 0 ≤ _)⟩)
    dsimp only [Pt.U, Pt.locs, Pt.cells, Pt.slots] at X183 l183 y183 z183 st183 hQ183
    replace X183 := own_cast X183 l183 y183 z183
    obtain ⟨hv183, N183q, K183, Eo183, Ft183, Fs183, Ff183, Fi183, Vt183⟩ := hQ183
    rw [hv183] at st183
    have N183 := Fr.app N160 N183q
    have f184 := f161.keep K183 (ninS ne_b1_b153 (ninS ne_b1_bt160 nin0))
    have f185 := f162.keep K183 (ninS ne_b48_b153 (ninS ne_b48_bt160 nin0))
    have f186 := f163.keep K183 (ninS ne_b52_b153 (ninS ne_b52_bt160 nin0))
    have f187 := f164.keep K183 (ninS ne_b57_b153 (ninS ne_b57_bt160 nin0))
    have f188 := Eo160.keep K183
    have z189 := Nat.le_trans z166 K183.1
    have kp190 := Keep.trans kp167 K183 (allS (Or.inr sz_b153) (allS (Or.inr sz_bt160) all0))
    obtain ⟨cq191, kq191, q191a, q191b, q191c⟩ := isOf hZ rfl Eo183
    obtain ⟨_, _, ⟨T191, L191, k191, n191⟩, -, X191, ⟨Lc191, hQ191, l191, y191, z191⟩, st191⟩ := X183.virtualBack hx (y := (⟨"com/example/makespun/makespun/simulate/Timeline", "add", "(II)V"⟩ : MethodName)) (z := (⟨"com/example/makespun/makespun/simulate/Timeline", "add", "(II)V"⟩ : MethodName)) hown (mvT hZ (hw _ (List.mem_of_getElem? (i := 27) rfl))) (mvT hZ (hw _ (List.mem_of_getElem? (i := 28) rfl))) (notFace_of_selects (args := #[]) (mvT hZ (hw _ (List.mem_of_getElem? (i := 30) rfl)))) (mvT hZ (hw _ (List.mem_of_getElem? (i := 30) rfl))) (mvT hZ (hw _ (List.mem_of_getElem? (i := 29) rfl))) (by decide) (backOf (W := 0) (rmA01 l Z a0 hw [] b153 bt160 b52 kb160 (1 : Int32) (0 : Int32) (0 : Int32) (0 : Int32) (0 : Int32) T183.heap n0 z189 Eo183 Ft183 Fs183 Ff183 Fi183 Vt183 ne_b153_bt160 g_b153 g_bt160) hZ (hw _ (List.mem_of_getElem? (i := 31) rfl)) (hw _ (List.mem_of_getElem? (i := 7) rfl)) (by decide) (by decide)) q191a q191c (g := (mkF m 306 #[.val (.int im), .val (.int ib), .val (.int i0), .val (.int i1), .val (.int i2), .val (.long ga), .second, .val (.int (2 : Int32)), .val (.int (0 : Int32)), .val (.int (0 : Int32)), .val (.ref b1), .val (.long (ib.toInt64)), .second, .val (.long f0), .second, .val (.long s1), .second, .val (.long f1), .second, .val (.long s2), .second, .val (.long f2), .second, .val (.ref b48), .val (.ref b52), .val (.ref b57), .val (.ref b153), .unset, .unset] [(.int (1 : Int32)), (.int (0 : Int32)), (.ref b153)])) rfl (by rw [hml]; rfl) (Steps.refl _) (argsL := [(.int (0 : Int32)), (.int (1 : Int32))]) (rest := []) (lenOf pd_3 rfl) rfl (by show 2 * 0 + _ ≤ _; exact Nat.le_of_eq rfl) (hb hby at_306) (fun _ _ => ⟨rfl, rfl, (by decide : 6 + 0 ≤ _), (by decide : 21 + 0 ≤ _)⟩)
    dsimp only [Pt.U, Pt.locs, Pt.cells, Pt.slots] at X191 l191 y191 z191 st191 hQ191
    replace X191 := own_cast X191 l191 y191 z191
    obtain ⟨hv191, N191q, K191, Eo191, Ft191, Fs191, Ff191, Fi191, Vt191⟩ := hQ191
    rw [hv191] at st191
    have N191 := Fr.app N183 N191q
    have f192 := f184.keep K191 (ninS ne_b1_b153 (ninS ne_b1_bt160 nin0))
    have f193 := f185.keep K191 (ninS ne_b48_b153 (ninS ne_b48_bt160 nin0))
    have f194 := f186.keep K191 (ninS ne_b52_b153 (ninS ne_b52_bt160 nin0))
    have f195 := f187.keep K191 (ninS ne_b57_b153 (ninS ne_b57_bt160 nin0))
    have f196 := Eo183.keep K191
    have z197 := Nat.le_trans z189 K191.1
    have kp198 := Keep.trans kp190 K191 (allS (Or.inr sz_b153) (allS (Or.inr sz_bt160) all0))
    obtain ⟨clq199, Arq199, cq199, Sq199, nq199, Hq199, Gq199⟩ := id f195
    have hiq199 : ¬ ((0 : Int32) < 0 ∨ clq199.slots.size ≤ ((0 : Int32)).toNatClampNeg) := inb_of Sq199 ⟨by decide, by decide⟩
    have haq199 : clq199.slots[((0 : Int32)).toNatClampNeg]? = some (.long f2) := Hq199.at hiq199 rfl
    obtain ⟨clq200, Arq200, cq200, Sq200, nq200, Hq200, Gq200⟩ := id f195
    have hiq200 : ¬ ((1 : Int32) < 0 ∨ clq200.slots.size ≤ ((1 : Int32)).toNatClampNeg) := inb_of Sq200 ⟨by decide, by decide⟩
    have haq200 : clq200.slots[((1 : Int32)).toNatClampNeg]? = some (.long f1) := Hq200.at hiq200 rfl
    obtain ⟨_, _, ⟨T201, L201, k201, n201⟩, -, X201, ⟨Lc201, hQ201, l201, y201, z201⟩, st201⟩ := Jvm.LawKit.callS X191 hx (y := (⟨"java/lang/Math", "max", "(JJ)J"⟩ : MethodName)) hown (mvT hZ (hw _ (List.mem_of_getElem? (i := 38) rfl))) (mvT hZ (hw _ (List.mem_of_getElem? (i := 39) rfl))) (mvT hZ (hw _ (List.mem_of_getElem? (i := 40) rfl))) (mvT hZ (hw _ (List.mem_of_getElem? (i := 41) rfl))) (by decide) (backOf (W := 0) (rmX l Z a0 hw [] f2 f1 T191.heap n0 z197) hZ (hw _ (List.mem_of_getElem? (i := 41) rfl)) (hw _ (List.mem_of_getElem? (i := 40) rfl)) (by decide) (by decide)) (g := (mkF m 358 #[.val (.int im), .val (.int ib), .val (.int i0), .val (.int i1), .val (.int i2), .val (.long ga), .second, .val (.int (2 : Int32)), .val (.int (0 : Int32)), .val (.int (0 : Int32)), .val (.ref b1), .val (.long (ib.toInt64)), .second, .val (.long f0), .second, .val (.long s1), .second, .val (.long f1), .second, .val (.long s2), .second, .val (.long f2), .second, .val (.ref b48), .val (.ref b52), .val (.ref b57), .val (.ref b153), .val (.long f2), .second] [(.long f1), (.long f2)])) rfl (by rw [hml]; rfl) (argsL := [(.long f2), (.long f1)]) (rest := []) (lenOf pd_4 rfl) rfl (by show 2 * 0 + _ ≤ _; exact Nat.le_of_eq rfl) (hb hby at_358) (fun _ _ => ⟨rfl, rfl, (by decide : 6 + 0 ≤ _), (by decide : 21 + 0 ≤ _)⟩)
    dsimp only [Pt.U, Pt.locs, Pt.cells, Pt.slots] at X201 l201 y201 z201 st201 hQ201
    replace X201 := own_cast X201 l201 y201 z201
    obtain ⟨hv201, N201q, e201⟩ := hQ201
    rw [hv201] at st201
    have N201 := Fr.app N191 N201q
    obtain ⟨cq202, kq202, q202a, q202b, q202c⟩ := isOf hZ e201 Eo191
    obtain ⟨_, _, ⟨T202, L202, k202, n202⟩, -, X202, ⟨Lc202, hQ202, l202, y202, z202⟩, st202⟩ := X201.virtualBack hx (y := (⟨"com/example/makespun/makespun/simulate/Timeline", "freeAt", "()D"⟩ : MethodName)) (z := (⟨"com/example/makespun/makespun/simulate/Timeline", "freeAt", "()D"⟩ : MethodName)) hown (mvT hZ (hw _ (List.mem_of_getElem? (i := 20) rfl))) (mvT hZ (hw _ (List.mem_of_getElem? (i := 21) rfl))) (notFace_of_selects (args := #[]) (mvT hZ (hw _ (List.mem_of_getElem? (i := 23) rfl)))) (mvT hZ (hw _ (List.mem_of_getElem? (i := 23) rfl))) (mvT hZ (hw _ (List.mem_of_getElem? (i := 22) rfl))) (by decide) (backOf (W := 0) (rmF20 l Z a0 hw [] b153 bt160 b52 kb160 k52 (1 : Int32) (0 : Int32) (0 : Int32) (FP.l2d f2) (FP.l2d f1) (FP.l2d f0) T191.heap n0 z197 Ft191 Fs191 Ff191 Vt191 f194) hZ (hw _ (List.mem_of_getElem? (i := 24) rfl)) (hw _ (List.mem_of_getElem? (i := 7) rfl)) (by decide) (by decide)) q202a q202c (g := (mkF m 382 #[.val (.int im), .val (.int ib), .val (.int i0), .val (.int i1), .val (.int i2), .val (.long ga), .second, .val (.int (2 : Int32)), .val (.int (0 : Int32)), .val (.int (0 : Int32)), .val (.ref b1), .val (.long (ib.toInt64)), .second, .val (.long f0), .second, .val (.long s1), .second, .val (.long f1), .second, .val (.long s2), .second, .val (.long f2), .second, .val (.ref b48), .val (.ref b52), .val (.ref b57), .val (.ref b153), .val (.long (own_max f2 f1)), .second] [(.ref b153)])) rfl (by rw [hml]; rfl) (Steps.refl _) (argsL := []) (rest := []) (lenOf pd_2 rfl) rfl (by show 2 * 0 + _ ≤ _; exact Nat.le_of_eq rfl) (hb hby at_382) (fun _ _ => ⟨rfl, e201, (by decide : 6 + 0 ≤ _), (by decide : 21 + 0 ≤ _)⟩)
    dsimp only [Pt.U, Pt.locs, Pt.cells, Pt.slots] at X202 l202 y202 z202 st202 hQ202
    replace X202 := own_cast X202 l202 y202 z202
    obtain ⟨hv202, N202q, e202⟩ := hQ202
    rw [hv202] at st202
    have N202 := Fr.app N201 N202q
    obtain ⟨fs, hr, hrun, hended, hW, hsame⟩ := X202.leave (v := some (.int (1 : Int32))) (fun h => by rw [Bd.returns] at h; cases h)
    refine ⟨_, _, k182 _ ?_, hrun, hended, _, _, rfl, ?_, ⟨_, rfl⟩, hW, hsame.mono (by decide) (by decide)⟩
    · refine XS.iload X160.here hx rfl (hb hby at_274) rfl ?_
      refine XS.iconst X160.here hx rfl (hb hby at_276) ?_
      show Steps p.tables e below (T160.setTop (mkF m 277 #[.val (.int im), .val (.int ib), .val (.int i0), .val (.int i1), .val (.int i2), .val (.long ga), .second, .val (.int (2 : Int32)), .val (.int (0 : Int32)), .val (.int (0 : Int32)), .val (.ref b1), .val (.long (ib.toInt64)), .second, .val (.long f0), .second, .val (.long s1), .second, .val (.long f1), .second, .val (.long s2), .second, .val (.long f2), .second, .val (.ref b48), .val (.ref b52), .val (.ref b57), .val (.ref b153), .unset, .unset] [(.int (1 : Int32)), (.int (2 : Int32))])) _
      refine XS.icmpNo X160.here hx rfl (hb hby at_277) rfl (flt (by decide : ¬ ((2 : Int32) < (1 : Int32)))).1 ?_
      refine XS.aload X160.here hx rfl (hb hby at_280) rfl rfl ?_
      refine XS.iconst X160.here hx rfl (hb hby at_282) ?_
      refine XS.iconst X160.here hx rfl (hb hby at_283) ?_
      show Steps p.tables e below (T160.setTop (mkF m 284 #[.val (.int im), .val (.int ib), .val (.int i0), .val (.int i1), .val (.int i2), .val (.long ga), .second, .val (.int (2 : Int32)), .val (.int (0 : Int32)), .val (.int (0 : Int32)), .val (.ref b1), .val (.long (ib.toInt64)), .second, .val (.long f0), .second, .val (.long s1), .second, .val (.long f1), .second, .val (.long s2), .second, .val (.long f2), .second, .val (.ref b48), .val (.ref b52), .val (.ref b57), .val (.ref b153), .unset, .unset] [(.int (0 : Int32)), (.int (0 : Int32)), (.ref b153)])) _
      refine st183.trans ?_
      refine XS.iload X183.here hx rfl (hb hby at_287) rfl ?_
      refine XS.iconst X183.here hx rfl (hb hby at_289) ?_
      show Steps p.tables e below (T183.setTop (mkF m 290 #[.val (.int im), .val (.int ib), .val (.int i0), .val (.int i1), .val (.int i2), .val (.long ga), .second, .val (.int (2 : Int32)), .val (.int (0 : Int32)), .val (.int (0 : Int32)), .val (.ref b1), .val (.long (ib.toInt64)), .second, .val (.long f0), .second, .val (.long s1), .second, .val (.long f1), .second, .val (.long s2), .second, .val (.long f2), .second, .val (.ref b48), .val (.ref b52), .val (.ref b57), .val (.ref b153), .unset, .unset] [(.int (2 : Int32)), (.int (2 : Int32))])) _
      refine XS.icmpNo X183.here hx rfl (hb hby at_290) rfl (flt (by decide : ¬ ((2 : Int32) < (2 : Int32)))).1 ?_
      refine XS.aload X183.here hx rfl (hb hby at_293) rfl rfl ?_
      refine XS.iload X183.here hx rfl (hb hby at_295) rfl ?_
      show Steps p.tables e below (T183.setTop (mkF m 297 #[.val (.int im), .val (.int ib), .val (.int i0), .val (.int i1), .val (.int i2), .val (.long ga), .second, .val (.int (2 : Int32)), .val (.int (0 : Int32)), .val (.int (0 : Int32)), .val (.ref b1), .val (.long (ib.toInt64)), .second, .val (.long f0), .second, .val (.long s1), .second, .val (.long f1), .second, .val (.long s2), .second, .val (.long f2), .second, .val (.ref b48), .val (.ref b52), .val (.ref b57), .val (.ref b153), .unset, .unset] [(.int (0 : Int32)), (.ref b153)])) _
      refine XS.ifYes X183.here hx rfl (pc0 := 297) (pc' := 304) rfl (hb hby at_297) rfl ((if0 _ _).trans (teq (by decide : ((0 : Int32) = (0 : Int32)))).1) (by decide) (by decide) ?_
      refine XS.iconst X183.here hx rfl (hb hby at_304) ?_
      show Steps p.tables e below (T183.setTop (mkF m 305 #[.val (.int im), .val (.int ib), .val (.int i0), .val (.int i1), .val (.int i2), .val (.long ga), .second, .val (.int (2 : Int32)), .val (.int (0 : Int32)), .val (.int (0 : Int32)), .val (.ref b1), .val (.long (ib.toInt64)), .second, .val (.long f0), .second, .val (.long s1), .second, .val (.long f1), .second, .val (.long s2), .second, .val (.long f2), .second, .val (.ref b48), .val (.ref b52), .val (.ref b57), .val (.ref b153), .unset, .unset] [(.int (0 : Int32)), (.ref b153)])) _
      refine XS.iconst X183.here hx rfl (hb hby at_305) ?_
      refine st191.trans ?_
      refine XS.iload X191.here hx rfl (hb hby at_309) rfl ?_
      refine XS.iconst X191.here hx rfl (hb hby at_311) ?_
      show Steps p.tables e below (T191.setTop (mkF m 312 #[.val (.int im), .val (.int ib), .val (.int i0), .val (.int i1), .val (.int i2), .val (.long ga), .second, .val (.int (2 : Int32)), .val (.int (0 : Int32)), .val (.int (0 : Int32)), .val (.ref b1), .val (.long (ib.toInt64)), .second, .val (.long f0), .second, .val (.long s1), .second, .val (.long f1), .second, .val (.long s2), .second, .val (.long f2), .second, .val (.ref b48), .val (.ref b52), .val (.ref b57), .val (.ref b153), .unset, .unset] [(.int (3 : Int32)), (.int (2 : Int32))])) _
      refine XS.icmpYes X191.here hx rfl (pc0 := 312) (pc' := 331) rfl (hb hby at_312) rfl (feq (by decide : ¬ ((2 : Int32) = (3 : Int32)))).2 (by decide) (by decide) ?_
      refine XS.lconst X191.here hx rfl (hb hby at_331) ?_
      refine XS.lstore X191.here hx rfl (hb hby at_332) rfl (l' := #[.val (.int im), .val (.int ib), .val (.int i0), .val (.int i1), .val (.int i2), .val (.long ga), .second, .val (.int (2 : Int32)), .val (.int (0 : Int32)), .val (.int (0 : Int32)), .val (.ref b1), .val (.long (ib.toInt64)), .second, .val (.long f0), .second, .val (.long s1), .second, .val (.long f1), .second, .val (.long s2), .second, .val (.long f2), .second, .val (.ref b48), .val (.ref b52), .val (.ref b57), .val (.ref b153), .val (.long (0 : Int64)), .second]) rfl ?_
      show Steps p.tables e below (T191.setTop (mkF m 334 #[.val (.int im), .val (.int ib), .val (.int i0), .val (.int i1), .val (.int i2), .val (.long ga), .second, .val (.int (2 : Int32)), .val (.int (0 : Int32)), .val (.int (0 : Int32)), .val (.ref b1), .val (.long (ib.toInt64)), .second, .val (.long f0), .second, .val (.long s1), .second, .val (.long f1), .second, .val (.long s2), .second, .val (.long f2), .second, .val (.ref b48), .val (.ref b52), .val (.ref b57), .val (.ref b153), .val (.long (0 : Int64)), .second] [])) _
      refine XS.iload X191.here hx rfl (hb hby at_334) rfl ?_
      refine XS.iconst X191.here hx rfl (hb hby at_336) ?_
      show Steps p.tables e below (T191.setTop (mkF m 337 #[.val (.int im), .val (.int ib), .val (.int i0), .val (.int i1), .val (.int i2), .val (.long ga), .second, .val (.int (2 : Int32)), .val (.int (0 : Int32)), .val (.int (0 : Int32)), .val (.ref b1), .val (.long (ib.toInt64)), .second, .val (.long f0), .second, .val (.long s1), .second, .val (.long f1), .second, .val (.long s2), .second, .val (.long f2), .second, .val (.ref b48), .val (.ref b52), .val (.ref b57), .val (.ref b153), .val (.long (0 : Int64)), .second] [(.int (1 : Int32)), (.int (2 : Int32))])) _
      refine XS.icmpNo X191.here hx rfl (hb hby at_337) rfl (flt (by decide : ¬ ((2 : Int32) < (1 : Int32)))).1 ?_
      refine XS.aload X191.here hx rfl (hb hby at_340) rfl rfl ?_
      refine XS.iconst X191.here hx rfl (hb hby at_342) ?_
      refine X191.laload hx (j := (0 : Int32)) (v := (.long f2)) (by exact Arq199.1) (State.isArrayOf_alike hZ.alike Arq199.2.1) Arq199.2.2 hiq199 haq199 (g := (mkF m 343 #[.val (.int im), .val (.int ib), .val (.int i0), .val (.int i1), .val (.int i2), .val (.long ga), .second, .val (.int (2 : Int32)), .val (.int (0 : Int32)), .val (.int (0 : Int32)), .val (.ref b1), .val (.long (ib.toInt64)), .second, .val (.long f0), .second, .val (.long s1), .second, .val (.long f1), .second, .val (.long s2), .second, .val (.long f2), .second, .val (.ref b48), .val (.ref b52), .val (.ref b57), .val (.ref b153), .val (.long (0 : Int64)), .second] [(.int (0 : Int32)), (.ref b57)])) rfl rfl (hb hby at_343) _ ?_
      refine XS.lstore X191.here hx rfl (hb hby at_344) rfl (l' := #[.val (.int im), .val (.int ib), .val (.int i0), .val (.int i1), .val (.int i2), .val (.long ga), .second, .val (.int (2 : Int32)), .val (.int (0 : Int32)), .val (.int (0 : Int32)), .val (.ref b1), .val (.long (ib.toInt64)), .second, .val (.long f0), .second, .val (.long s1), .second, .val (.long f1), .second, .val (.long s2), .second, .val (.long f2), .second, .val (.ref b48), .val (.ref b52), .val (.ref b57), .val (.ref b153), .val (.long f2), .second]) rfl ?_
      show Steps p.tables e below (T191.setTop (mkF m 346 #[.val (.int im), .val (.int ib), .val (.int i0), .val (.int i1), .val (.int i2), .val (.long ga), .second, .val (.int (2 : Int32)), .val (.int (0 : Int32)), .val (.int (0 : Int32)), .val (.ref b1), .val (.long (ib.toInt64)), .second, .val (.long f0), .second, .val (.long s1), .second, .val (.long f1), .second, .val (.long s2), .second, .val (.long f2), .second, .val (.ref b48), .val (.ref b52), .val (.ref b57), .val (.ref b153), .val (.long f2), .second] [])) _
      refine XS.iload X191.here hx rfl (hb hby at_346) rfl ?_
      refine XS.iconst X191.here hx rfl (hb hby at_348) ?_
      show Steps p.tables e below (T191.setTop (mkF m 349 #[.val (.int im), .val (.int ib), .val (.int i0), .val (.int i1), .val (.int i2), .val (.long ga), .second, .val (.int (2 : Int32)), .val (.int (0 : Int32)), .val (.int (0 : Int32)), .val (.ref b1), .val (.long (ib.toInt64)), .second, .val (.long f0), .second, .val (.long s1), .second, .val (.long f1), .second, .val (.long s2), .second, .val (.long f2), .second, .val (.ref b48), .val (.ref b52), .val (.ref b57), .val (.ref b153), .val (.long f2), .second] [(.int (2 : Int32)), (.int (2 : Int32))])) _
      refine XS.icmpNo X191.here hx rfl (hb hby at_349) rfl (flt (by decide : ¬ ((2 : Int32) < (2 : Int32)))).1 ?_
      refine XS.lload X191.here hx rfl (hb hby at_352) rfl ?_
      refine XS.aload X191.here hx rfl (hb hby at_354) rfl rfl ?_
      refine XS.iconst X191.here hx rfl (hb hby at_356) ?_
      refine X191.laload hx (j := (1 : Int32)) (v := (.long f1)) (by exact Arq200.1) (State.isArrayOf_alike hZ.alike Arq200.2.1) Arq200.2.2 hiq200 haq200 (g := (mkF m 357 #[.val (.int im), .val (.int ib), .val (.int i0), .val (.int i1), .val (.int i2), .val (.long ga), .second, .val (.int (2 : Int32)), .val (.int (0 : Int32)), .val (.int (0 : Int32)), .val (.ref b1), .val (.long (ib.toInt64)), .second, .val (.long f0), .second, .val (.long s1), .second, .val (.long f1), .second, .val (.long s2), .second, .val (.long f2), .second, .val (.ref b48), .val (.ref b52), .val (.ref b57), .val (.ref b153), .val (.long f2), .second] [(.int (1 : Int32)), (.ref b57), (.long f2)])) rfl rfl (hb hby at_357) _ ?_
      show Steps p.tables e below (T191.setTop (mkF m 358 #[.val (.int im), .val (.int ib), .val (.int i0), .val (.int i1), .val (.int i2), .val (.long ga), .second, .val (.int (2 : Int32)), .val (.int (0 : Int32)), .val (.int (0 : Int32)), .val (.ref b1), .val (.long (ib.toInt64)), .second, .val (.long f0), .second, .val (.long s1), .second, .val (.long f1), .second, .val (.long s2), .second, .val (.long f2), .second, .val (.ref b48), .val (.ref b52), .val (.ref b57), .val (.ref b153), .val (.long f2), .second] [(.long f1), (.long f2)])) _
      refine st201 _ ?_
      refine XS.lstore X201.here hx rfl (hb hby at_361) rfl (l' := #[.val (.int im), .val (.int ib), .val (.int i0), .val (.int i1), .val (.int i2), .val (.long ga), .second, .val (.int (2 : Int32)), .val (.int (0 : Int32)), .val (.int (0 : Int32)), .val (.ref b1), .val (.long (ib.toInt64)), .second, .val (.long f0), .second, .val (.long s1), .second, .val (.long f1), .second, .val (.long s2), .second, .val (.long f2), .second, .val (.ref b48), .val (.ref b52), .val (.ref b57), .val (.ref b153), .val (.long (own_max f2 f1)), .second]) rfl ?_
      refine XS.iload X201.here hx rfl (hb hby at_363) rfl ?_
      refine XS.iconst X201.here hx rfl (hb hby at_365) ?_
      show Steps p.tables e below (T201.setTop (mkF m 366 #[.val (.int im), .val (.int ib), .val (.int i0), .val (.int i1), .val (.int i2), .val (.long ga), .second, .val (.int (2 : Int32)), .val (.int (0 : Int32)), .val (.int (0 : Int32)), .val (.ref b1), .val (.long (ib.toInt64)), .second, .val (.long f0), .second, .val (.long s1), .second, .val (.long f1), .second, .val (.long s2), .second, .val (.long f2), .second, .val (.ref b48), .val (.ref b52), .val (.ref b57), .val (.ref b153), .val (.long (own_max f2 f1)), .second] [(.int (3 : Int32)), (.int (2 : Int32))])) _
      refine XS.icmpYes X201.here hx rfl (pc0 := 366) (pc' := 380) rfl (hb hby at_366) rfl (feq (by decide : ¬ ((2 : Int32) = (3 : Int32)))).2 (by decide) (by decide) ?_
      refine XS.aload X201.here hx rfl (hb hby at_380) rfl rfl ?_
      refine st202.trans ?_
      show Steps p.tables e below (T202.setTop (mkF m 385 #[.val (.int im), .val (.int ib), .val (.int i0), .val (.int i1), .val (.int i2), .val (.long ga), .second, .val (.int (2 : Int32)), .val (.int (0 : Int32)), .val (.int (0 : Int32)), .val (.ref b1), .val (.long (ib.toInt64)), .second, .val (.long f0), .second, .val (.long s1), .second, .val (.long f1), .second, .val (.long s2), .second, .val (.long f2), .second, .val (.ref b48), .val (.ref b52), .val (.ref b57), .val (.ref b153), .val (.long (own_max f2 f1)), .second] [(.double (FP.l2d f2))])) _
      refine XS.lload X202.here hx rfl (hb hby at_385) rfl ?_
      show Steps p.tables e below (T202.setTop (mkF m 387 #[.val (.int im), .val (.int ib), .val (.int i0), .val (.int i1), .val (.int i2), .val (.long ga), .second, .val (.int (2 : Int32)), .val (.int (0 : Int32)), .val (.int (0 : Int32)), .val (.ref b1), .val (.long (ib.toInt64)), .second, .val (.long f0), .second, .val (.long s1), .second, .val (.long f1), .second, .val (.long s2), .second, .val (.long f2), .second, .val (.ref b48), .val (.ref b52), .val (.ref b57), .val (.ref b153), .val (.long (own_max f2 f1)), .second] [(.long (own_max f2 f1)), (.double (FP.l2d f2))])) _
      refine XS.l2dS X202.here hx rfl (hb hby at_387) rfl rfl ?_
      show Steps p.tables e below (T202.setTop (mkF m 388 #[.val (.int im), .val (.int ib), .val (.int i0), .val (.int i1), .val (.int i2), .val (.long ga), .second, .val (.int (2 : Int32)), .val (.int (0 : Int32)), .val (.int (0 : Int32)), .val (.ref b1), .val (.long (ib.toInt64)), .second, .val (.long f0), .second, .val (.long s1), .second, .val (.long f1), .second, .val (.long s2), .second, .val (.long f2), .second, .val (.ref b48), .val (.ref b52), .val (.ref b57), .val (.ref b153), .val (.long (own_max f2 f1)), .second] [(.double (FP.l2d (own_max f2 f1))), (.double (FP.l2d f2))])) _
      refine XS.dcmpS X202.here hx rfl (hb hby at_388) rfl (v := (0 : Int32)) (own_cmp (show f2 = (own_max f2 f1) from ((congrArg (fun z => own_max z f1) rfl).trans (own_max_l ho.2.1)).symm)) ?_
      show Steps p.tables e below (T202.setTop (mkF m 389 #[.val (.int im), .val (.int ib), .val (.int i0), .val (.int i1), .val (.int i2), .val (.long ga), .second, .val (.int (2 : Int32)), .val (.int (0 : Int32)), .val (.int (0 : Int32)), .val (.ref b1), .val (.long (ib.toInt64)), .second, .val (.long f0), .second, .val (.long s1), .second, .val (.long f1), .second, .val (.long s2), .second, .val (.long f2), .second, .val (.ref b48), .val (.ref b52), .val (.ref b57), .val (.ref b153), .val (.long (own_max f2 f1)), .second] [(.int (0 : Int32))])) _
      refine XS.ifNo X202.here hx rfl (hb hby at_389) rfl ((if0 _ _).trans (teq (by decide : ((0 : Int32) = (0 : Int32)))).2) ?_
      refine XS.iconst X202.here hx rfl (hb hby at_392) ?_
      refine XS.goto X202.here hx rfl (pc0 := 393) (pc' := 397) rfl (hb hby at_393) (by decide) (by decide) ?_
      show Steps p.tables e below (T202.setTop (mkF m 397 #[.val (.int im), .val (.int ib), .val (.int i0), .val (.int i1), .val (.int i2), .val (.long ga), .second, .val (.int (2 : Int32)), .val (.int (0 : Int32)), .val (.int (0 : Int32)), .val (.ref b1), .val (.long (ib.toInt64)), .second, .val (.long f0), .second, .val (.long s1), .second, .val (.long f1), .second, .val (.long s2), .second, .val (.long f2), .second, .val (.ref b48), .val (.ref b52), .val (.ref b57), .val (.ref b153), .val (.long (own_max f2 f1)), .second] [(.int (1 : Int32))])) _
      exact retN X202 hx (t := .boolean) Bd.returns (by simp) (hb hby at_397) hr
    · show own_Q0 Z im ib i0 i1 i2 ga h0 n0 _ T202.heap _
      rw [e202]
      exact ⟨rfl, N202⟩
  · have k203 : ∀ tq, Steps p.tables e below (T160.setTop (mkF m 274 #[.val (.int im), .val (.int ib), .val (.int i0), .val (.int i1), .val (.int i2), .val (.long ga), .second, .val (.int (3 : Int32)), .val (.int (0 : Int32)), .val (.int (0 : Int32)), .val (.ref b1), .val (.long (ib.toInt64)), .second, .val (.long f0), .second, .val (.long s1), .second, .val (.long f1), .second, .val (.long s2), .second, .val (.long f2), .second, .val (.ref b48), .val (.ref b52), .val (.ref b57), .val (.ref b153), .unset, .unset] [])) tq → Steps p.tables e below (s₁.setTop (entryFrame m #[(.int im), (.int ib), (.int i0), (.int i1), (.int i2), (.long ga)] maxLocals)) tq := by
      intro tq kt
      refine k168 tq ?_
      rw [hn]
      exact kt
    obtain ⟨cq204, kq204, q204a, q204b, q204c⟩ := isOf hZ rfl Eo160
    obtain ⟨_, _, ⟨T204, L204, k204, n204⟩, -, X204, ⟨Lc204, hQ204, l204, y204, z204⟩, st204⟩ := X160.virtualBack hx (y := (⟨"com/example/makespun/makespun/simulate/Timeline", "add", "(II)V"⟩ : MethodName)) (z := (⟨"com/example/makespun/makespun/simulate/Timeline", "add", "(II)V"⟩ : MethodName)) hown (mvT hZ (hw _ (List.mem_of_getElem? (i := 27) rfl))) (mvT hZ (hw _ (List.mem_of_getElem? (i := 28) rfl))) (notFace_of_selects (args := #[]) (mvT hZ (hw _ (List.mem_of_getElem? (i := 30) rfl)))) (mvT hZ (hw _ (List.mem_of_getElem? (i := 30) rfl))) (mvT hZ (hw _ (List.mem_of_getElem? (i := 29) rfl))) (by decide) (backOf (W := 0) (rmA00 l Z a0 hw [] b153 bt160 b52 kb160 (0 : Int32) (0 : Int32) (0 : Int32) (0 : Int32) (0 : Int32) T160.heap n0 z166 Eo160 Ft160 Fs160 Ff160 Fi160 Vt160 ne_b153_bt160 g_b153 g_bt160) hZ (hw _ (List.mem_of_getElem? (i := 31) rfl)) (hw _ (List.mem_of_getElem? (i := 7) rfl)) (by decide) (by decide)) q204a q204c (g := (mkF m 284 #[.val (.int im), .val (.int ib), .val (.int i0), .val (.int i1), .val (.int i2), .val (.long ga), .second, .val (.int (3 : Int32)), .val (.int (0 : Int32)), .val (.int (0 : Int32)), .val (.ref b1), .val (.long (ib.toInt64)), .second, .val (.long f0), .second, .val (.long s1), .second, .val (.long f1), .second, .val (.long s2), .second, .val (.long f2), .second, .val (.ref b48), .val (.ref b52), .val (.ref b57), .val (.ref b153), .unset, .unset] [(.int (0 : Int32)), (.int (0 : Int32)), (.ref b153)])) rfl (by rw [hml]; rfl) (Steps.refl _) (argsL := [(.int (0 : Int32)), (.int (0 : Int32))]) (rest := []) (lenOf pd_3 rfl) rfl (by show 2 * 0 + _ ≤ _; exact Nat.le_of_eq rfl) (hb hby at_284) (fun _ _ => ⟨rfl, rfl, (by decide : 6 + 0 ≤ _), (by decide : 21 + 0 ≤ _)⟩)
    dsimp only [Pt.U, Pt.locs, Pt.cells, Pt.slots] at X204 l204 y204 z204 st204 hQ204
    replace X204 := own_cast X204 l204 y204 z204
    obtain ⟨hv204, N204q, K204, Eo204, Ft204, Fs204, Ff204, Fi204, Vt204⟩ := hQ204
    rw [hv204] at st204
    have N204 := Fr.app N160 N204q
    have f205 := f161.keep K204 (ninS ne_b1_b153 (ninS ne_b1_bt160 nin0))
    have f206 := f162.keep K204 (ninS ne_b48_b153 (ninS ne_b48_bt160 nin0))
    have f207 := f163.keep K204 (ninS ne_b52_b153 (ninS ne_b52_bt160 nin0))
    have f208 := f164.keep K204 (ninS ne_b57_b153 (ninS ne_b57_bt160 nin0))
    have f209 := Eo160.keep K204
    have z210 := Nat.le_trans z166 K204.1
    have kp211 := Keep.trans kp167 K204 (allS (Or.inr sz_b153) (allS (Or.inr sz_bt160) all0))
    obtain ⟨cq212, kq212, q212a, q212b, q212c⟩ := isOf hZ rfl Eo204
    obtain ⟨_, _, ⟨T212, L212, k212, n212⟩, -, X212, ⟨Lc212, hQ212, l212, y212, z212⟩, st212⟩ := X204.virtualBack hx (y := (⟨"com/example/makespun/makespun/simulate/Timeline", "add", "(II)V"⟩ : MethodName)) (z := (⟨"com/example/makespun/makespun/simulate/Timeline", "add", "(II)V"⟩ : MethodName)) hown (mvT hZ (hw _ (List.mem_of_getElem? (i := 27) rfl))) (mvT hZ (hw _ (List.mem_of_getElem? (i := 28) rfl))) (notFace_of_selects (args := #[]) (mvT hZ (hw _ (List.mem_of_getElem? (i := 30) rfl)))) (mvT hZ (hw _ (List.mem_of_getElem? (i := 30) rfl))) (mvT hZ (hw _ (List.mem_of_getElem? (i := 29) rfl))) (by decide) (backOf (W := 0) (rmA01 l Z a0 hw [] b153 bt160 b52 kb160 (1 : Int32) (0 : Int32) (0 : Int32) (0 : Int32) (0 : Int32) T204.heap n0 z210 Eo204 Ft204 Fs204 Ff204 Fi204 Vt204 ne_b153_bt160 g_b153 g_bt160) hZ (hw _ (List.mem_of_getElem? (i := 31) rfl)) (hw _ (List.mem_of_getElem? (i := 7) rfl)) (by decide) (by decide)) q212a q212c (g := (mkF m 306 #[.val (.int im), .val (.int ib), .val (.int i0), .val (.int i1), .val (.int i2), .val (.long ga), .second, .val (.int (3 : Int32)), .val (.int (0 : Int32)), .val (.int (0 : Int32)), .val (.ref b1), .val (.long (ib.toInt64)), .second, .val (.long f0), .second, .val (.long s1), .second, .val (.long f1), .second, .val (.long s2), .second, .val (.long f2), .second, .val (.ref b48), .val (.ref b52), .val (.ref b57), .val (.ref b153), .unset, .unset] [(.int (1 : Int32)), (.int (0 : Int32)), (.ref b153)])) rfl (by rw [hml]; rfl) (Steps.refl _) (argsL := [(.int (0 : Int32)), (.int (1 : Int32))]) (rest := []) (lenOf pd_3 rfl) rfl (by show 2 * 0 + _ ≤ _; exact Nat.le_of_eq rfl) (hb hby at_306) (fun _ _ => ⟨rfl, rfl, (by decide : 6 + 0 ≤ _), (by decide : 21 + 0 ≤ _)⟩)
    dsimp only [Pt.U, Pt.locs, Pt.cells, Pt.slots] at X212 l212 y212 z212 st212 hQ212
    replace X212 := own_cast X212 l212 y212 z212
    obtain ⟨hv212, N212q, K212, Eo212, Ft212, Fs212, Ff212, Fi212, Vt212⟩ := hQ212
    rw [hv212] at st212
    have N212 := Fr.app N204 N212q
    have f213 := f205.keep K212 (ninS ne_b1_b153 (ninS ne_b1_bt160 nin0))
    have f214 := f206.keep K212 (ninS ne_b48_b153 (ninS ne_b48_bt160 nin0))
    have f215 := f207.keep K212 (ninS ne_b52_b153 (ninS ne_b52_bt160 nin0))
    have f216 := f208.keep K212 (ninS ne_b57_b153 (ninS ne_b57_bt160 nin0))
    have f217 := Eo204.keep K212
    have z218 := Nat.le_trans z210 K212.1
    have kp219 := Keep.trans kp211 K212 (allS (Or.inr sz_b153) (allS (Or.inr sz_bt160) all0))
    obtain ⟨cq220, kq220, q220a, q220b, q220c⟩ := isOf hZ rfl Eo212
    obtain ⟨_, _, ⟨T220, L220, k220, n220⟩, -, X220, ⟨Lc220, hQ220, l220, y220, z220⟩, st220⟩ := X212.virtualBack hx (y := (⟨"com/example/makespun/makespun/simulate/Timeline", "add", "(II)V"⟩ : MethodName)) (z := (⟨"com/example/makespun/makespun/simulate/Timeline", "add", "(II)V"⟩ : MethodName)) hown (mvT hZ (hw _ (List.mem_of_getElem? (i := 27) rfl))) (mvT hZ (hw _ (List.mem_of_getElem? (i := 28) rfl))) (notFace_of_selects (args := #[]) (mvT hZ (hw _ (List.mem_of_getElem? (i := 30) rfl)))) (mvT hZ (hw _ (List.mem_of_getElem? (i := 30) rfl))) (mvT hZ (hw _ (List.mem_of_getElem? (i := 29) rfl))) (by decide) (backOf (W := 0) (rmA02 l Z a0 hw [] b153 bt160 b52 kb160 (2 : Int32) (1 : Int32) (0 : Int32) (0 : Int32) (0 : Int32) T212.heap n0 z218 Eo212 Ft212 Fs212 Ff212 Fi212 Vt212 ne_b153_bt160 g_b153 g_bt160) hZ (hw _ (List.mem_of_getElem? (i := 31) rfl)) (hw _ (List.mem_of_getElem? (i := 7) rfl)) (by decide) (by decide)) q220a q220c (g := (mkF m 328 #[.val (.int im), .val (.int ib), .val (.int i0), .val (.int i1), .val (.int i2), .val (.long ga), .second, .val (.int (3 : Int32)), .val (.int (0 : Int32)), .val (.int (0 : Int32)), .val (.ref b1), .val (.long (ib.toInt64)), .second, .val (.long f0), .second, .val (.long s1), .second, .val (.long f1), .second, .val (.long s2), .second, .val (.long f2), .second, .val (.ref b48), .val (.ref b52), .val (.ref b57), .val (.ref b153), .unset, .unset] [(.int (2 : Int32)), (.int (0 : Int32)), (.ref b153)])) rfl (by rw [hml]; rfl) (Steps.refl _) (argsL := [(.int (0 : Int32)), (.int (2 : Int32))]) (rest := []) (lenOf pd_3 rfl) rfl (by show 2 * 0 + _ ≤ _; exact Nat.le_of_eq rfl) (hb hby at_328) (fun _ _ => ⟨rfl, rfl, (by decide : 6 + 0 ≤ _), (by decide : 21 + 0 ≤ _)⟩)
    dsimp only [Pt.U, Pt.locs, Pt.cells, Pt.slots] at X220 l220 y220 z220 st220 hQ220
    replace X220 := own_cast X220 l220 y220 z220
    obtain ⟨hv220, N220q, K220, Eo220, Ft220, Fs220, Ff220, Fi220, Vt220⟩ := hQ220
    rw [hv220] at st220
    have N220 := Fr.app N212 N220q
    have f221 := f213.keep K220 (ninS ne_b1_b153 (ninS ne_b1_bt160 nin0))
    have f222 := f214.keep K220 (ninS ne_b48_b153 (ninS ne_b48_bt160 nin0))
    have f223 := f215.keep K220 (ninS ne_b52_b153 (ninS ne_b52_bt160 nin0))
    have f224 := f216.keep K220 (ninS ne_b57_b153 (ninS ne_b57_bt160 nin0))
    have f225 := Eo212.keep K220
    have z226 := Nat.le_trans z218 K220.1
    have kp227 := Keep.trans kp219 K220 (allS (Or.inr sz_b153) (allS (Or.inr sz_bt160) all0))
    obtain ⟨clq228, Arq228, cq228, Sq228, nq228, Hq228, Gq228⟩ := id f224
    have hiq228 : ¬ ((0 : Int32) < 0 ∨ clq228.slots.size ≤ ((0 : Int32)).toNatClampNeg) := inb_of Sq228 ⟨by decide, by decide⟩
    have haq228 : clq228.slots[((0 : Int32)).toNatClampNeg]? = some (.long f2) := Hq228.at hiq228 rfl
    obtain ⟨clq229, Arq229, cq229, Sq229, nq229, Hq229, Gq229⟩ := id f224
    have hiq229 : ¬ ((1 : Int32) < 0 ∨ clq229.slots.size ≤ ((1 : Int32)).toNatClampNeg) := inb_of Sq229 ⟨by decide, by decide⟩
    have haq229 : clq229.slots[((1 : Int32)).toNatClampNeg]? = some (.long f1) := Hq229.at hiq229 rfl
    obtain ⟨_, _, ⟨T230, L230, k230, n230⟩, -, X230, ⟨Lc230, hQ230, l230, y230, z230⟩, st230⟩ := Jvm.LawKit.callS X220 hx (y := (⟨"java/lang/Math", "max", "(JJ)J"⟩ : MethodName)) hown (mvT hZ (hw _ (List.mem_of_getElem? (i := 38) rfl))) (mvT hZ (hw _ (List.mem_of_getElem? (i := 39) rfl))) (mvT hZ (hw _ (List.mem_of_getElem? (i := 40) rfl))) (mvT hZ (hw _ (List.mem_of_getElem? (i := 41) rfl))) (by decide) (backOf (W := 0) (rmX l Z a0 hw [] f2 f1 T220.heap n0 z226) hZ (hw _ (List.mem_of_getElem? (i := 41) rfl)) (hw _ (List.mem_of_getElem? (i := 40) rfl)) (by decide) (by decide)) (g := (mkF m 358 #[.val (.int im), .val (.int ib), .val (.int i0), .val (.int i1), .val (.int i2), .val (.long ga), .second, .val (.int (3 : Int32)), .val (.int (0 : Int32)), .val (.int (0 : Int32)), .val (.ref b1), .val (.long (ib.toInt64)), .second, .val (.long f0), .second, .val (.long s1), .second, .val (.long f1), .second, .val (.long s2), .second, .val (.long f2), .second, .val (.ref b48), .val (.ref b52), .val (.ref b57), .val (.ref b153), .val (.long f2), .second] [(.long f1), (.long f2)])) rfl (by rw [hml]; rfl) (argsL := [(.long f2), (.long f1)]) (rest := []) (lenOf pd_4 rfl) rfl (by show 2 * 0 + _ ≤ _; exact Nat.le_of_eq rfl) (hb hby at_358) (fun _ _ => ⟨rfl, rfl, (by decide : 6 + 0 ≤ _), (by decide : 21 + 0 ≤ _)⟩)
    dsimp only [Pt.U, Pt.locs, Pt.cells, Pt.slots] at X230 l230 y230 z230 st230 hQ230
    replace X230 := own_cast X230 l230 y230 z230
    obtain ⟨hv230, N230q, e230⟩ := hQ230
    rw [hv230] at st230
    have N230 := Fr.app N220 N230q
    obtain ⟨clq231, Arq231, cq231, Sq231, nq231, Hq231, Gq231⟩ := id f224
    have hiq231 : ¬ ((2 : Int32) < 0 ∨ clq231.slots.size ≤ ((2 : Int32)).toNatClampNeg) := inb_of Sq231 ⟨by decide, by decide⟩
    have haq231 : clq231.slots[((2 : Int32)).toNatClampNeg]? = some (.long f0) := Hq231.at hiq231 rfl
    obtain ⟨_, _, ⟨T232, L232, k232, n232⟩, -, X232, ⟨Lc232, hQ232, l232, y232, z232⟩, st232⟩ := Jvm.LawKit.callS X230 hx (y := (⟨"java/lang/Math", "max", "(JJ)J"⟩ : MethodName)) hown (mvT hZ (hw _ (List.mem_of_getElem? (i := 38) rfl))) (mvT hZ (hw _ (List.mem_of_getElem? (i := 39) rfl))) (mvT hZ (hw _ (List.mem_of_getElem? (i := 40) rfl))) (mvT hZ (hw _ (List.mem_of_getElem? (i := 41) rfl))) (by decide) (backOf (W := 0) (rmX l Z a0 hw [] (own_max f2 f1) f0 T220.heap n0 z226) hZ (hw _ (List.mem_of_getElem? (i := 41) rfl)) (hw _ (List.mem_of_getElem? (i := 40) rfl)) (by decide) (by decide)) (g := (mkF m 375 #[.val (.int im), .val (.int ib), .val (.int i0), .val (.int i1), .val (.int i2), .val (.long ga), .second, .val (.int (3 : Int32)), .val (.int (0 : Int32)), .val (.int (0 : Int32)), .val (.ref b1), .val (.long (ib.toInt64)), .second, .val (.long f0), .second, .val (.long s1), .second, .val (.long f1), .second, .val (.long s2), .second, .val (.long f2), .second, .val (.ref b48), .val (.ref b52), .val (.ref b57), .val (.ref b153), .val (.long (own_max f2 f1)), .second] [(.long f0), (.long (own_max f2 f1))])) rfl (by rw [hml]; rfl) (argsL := [(.long (own_max f2 f1)), (.long f0)]) (rest := []) (lenOf pd_4 rfl) rfl (by show 2 * 0 + _ ≤ _; exact Nat.le_of_eq rfl) (hb hby at_375) (fun _ _ => ⟨rfl, e230, (by decide : 6 + 0 ≤ _), (by decide : 21 + 0 ≤ _)⟩)
    dsimp only [Pt.U, Pt.locs, Pt.cells, Pt.slots] at X232 l232 y232 z232 st232 hQ232
    replace X232 := own_cast X232 l232 y232 z232
    obtain ⟨hv232, N232q, e232⟩ := hQ232
    rw [hv232] at st232
    have N232 := Fr.app N230 N232q
    obtain ⟨cq233, kq233, q233a, q233b, q233c⟩ := isOf hZ e232 Eo220
    obtain ⟨_, _, ⟨T233, L233, k233, n233⟩, -, X233, ⟨Lc233, hQ233, l233, y233, z233⟩, st233⟩ := X232.virtualBack hx (y := (⟨"com/example/makespun/makespun/simulate/Timeline", "freeAt", "()D"⟩ : MethodName)) (z := (⟨"com/example/makespun/makespun/simulate/Timeline", "freeAt", "()D"⟩ : MethodName)) hown (mvT hZ (hw _ (List.mem_of_getElem? (i := 20) rfl))) (mvT hZ (hw _ (List.mem_of_getElem? (i := 21) rfl))) (notFace_of_selects (args := #[]) (mvT hZ (hw _ (List.mem_of_getElem? (i := 23) rfl)))) (mvT hZ (hw _ (List.mem_of_getElem? (i := 23) rfl))) (mvT hZ (hw _ (List.mem_of_getElem? (i := 22) rfl))) (by decide) (backOf (W := 0) (rmF30 l Z a0 hw [] b153 bt160 b52 kb160 k52 (2 : Int32) (1 : Int32) (0 : Int32) (FP.l2d f2) (FP.l2d f1) (FP.l2d f0) T220.heap n0 z226 Ft220 Fs220 Ff220 Vt220 f223) hZ (hw _ (List.mem_of_getElem? (i := 24) rfl)) (hw _ (List.mem_of_getElem? (i := 7) rfl)) (by decide) (by decide)) q233a q233c (g := (mkF m 382 #[.val (.int im), .val (.int ib), .val (.int i0), .val (.int i1), .val (.int i2), .val (.long ga), .second, .val (.int (3 : Int32)), .val (.int (0 : Int32)), .val (.int (0 : Int32)), .val (.ref b1), .val (.long (ib.toInt64)), .second, .val (.long f0), .second, .val (.long s1), .second, .val (.long f1), .second, .val (.long s2), .second, .val (.long f2), .second, .val (.ref b48), .val (.ref b52), .val (.ref b57), .val (.ref b153), .val (.long (own_max (own_max f2 f1) f0)), .second] [(.ref b153)])) rfl (by rw [hml]; rfl) (Steps.refl _) (argsL := []) (rest := []) (lenOf pd_2 rfl) rfl (by show 2 * 0 + _ ≤ _; exact Nat.le_of_eq rfl) (hb hby at_382) (fun _ _ => ⟨rfl, e232, (by decide : 6 + 0 ≤ _), (by decide : 21 + 0 ≤ _)⟩)
    dsimp only [Pt.U, Pt.locs, Pt.cells, Pt.slots] at X233 l233 y233 z233 st233 hQ233
    replace X233 := own_cast X233 l233 y233 z233
    obtain ⟨hv233, N233q, e233⟩ := hQ233
    rw [hv233] at st233
    have N233 := Fr.app N232 N233q
    obtain ⟨fs, hr, hrun, hended, hW, hsame⟩ := X233.leave (v := some (.int (1 : Int32))) (fun h => by rw [Bd.returns] at h; cases h)
    refine ⟨_, _, k203 _ ?_, hrun, hended, _, _, rfl, ?_, ⟨_, rfl⟩, hW, hsame.mono (by decide) (by decide)⟩
    · refine XS.iload X160.here hx rfl (hb hby at_274) rfl ?_
      refine XS.iconst X160.here hx rfl (hb hby at_276) ?_
      show Steps p.tables e below (T160.setTop (mkF m 277 #[.val (.int im), .val (.int ib), .val (.int i0), .val (.int i1), .val (.int i2), .val (.long ga), .second, .val (.int (3 : Int32)), .val (.int (0 : Int32)), .val (.int (0 : Int32)), .val (.ref b1), .val (.long (ib.toInt64)), .second, .val (.long f0), .second, .val (.long s1), .second, .val (.long f1), .second, .val (.long s2), .second, .val (.long f2), .second, .val (.ref b48), .val (.ref b52), .val (.ref b57), .val (.ref b153), .unset, .unset] [(.int (1 : Int32)), (.int (3 : Int32))])) _
      refine XS.icmpNo X160.here hx rfl (hb hby at_277) rfl (flt (by decide : ¬ ((3 : Int32) < (1 : Int32)))).1 ?_
      show Steps p.tables e below (T160.setTop (mkF m 280 #[.val (.int im), .val (.int ib), .val (.int i0), .val (.int i1), .val (.int i2), .val (.long ga), .second, .val (.int (3 : Int32)), .val (.int (0 : Int32)), .val (.int (0 : Int32)), .val (.ref b1), .val (.long (ib.toInt64)), .second, .val (.long f0), .second, .val (.long s1), .second, .val (.long f1), .second, .val (.long s2), .second, .val (.long f2), .second, .val (.ref b48), .val (.ref b52), .val (.ref b57), .val (.ref b153), .unset, .unset] [])) _
      refine XS.aload X160.here hx rfl (hb hby at_280) rfl rfl ?_
      refine XS.iconst X160.here hx rfl (hb hby at_282) ?_
      refine XS.iconst X160.here hx rfl (hb hby at_283) ?_
      refine st204.trans ?_
      refine XS.iload X204.here hx rfl (hb hby at_287) rfl ?_
      refine XS.iconst X204.here hx rfl (hb hby at_289) ?_
      show Steps p.tables e below (T204.setTop (mkF m 290 #[.val (.int im), .val (.int ib), .val (.int i0), .val (.int i1), .val (.int i2), .val (.long ga), .second, .val (.int (3 : Int32)), .val (.int (0 : Int32)), .val (.int (0 : Int32)), .val (.ref b1), .val (.long (ib.toInt64)), .second, .val (.long f0), .second, .val (.long s1), .second, .val (.long f1), .second, .val (.long s2), .second, .val (.long f2), .second, .val (.ref b48), .val (.ref b52), .val (.ref b57), .val (.ref b153), .unset, .unset] [(.int (2 : Int32)), (.int (3 : Int32))])) _
      refine XS.icmpNo X204.here hx rfl (hb hby at_290) rfl (flt (by decide : ¬ ((3 : Int32) < (2 : Int32)))).1 ?_
      show Steps p.tables e below (T204.setTop (mkF m 293 #[.val (.int im), .val (.int ib), .val (.int i0), .val (.int i1), .val (.int i2), .val (.long ga), .second, .val (.int (3 : Int32)), .val (.int (0 : Int32)), .val (.int (0 : Int32)), .val (.ref b1), .val (.long (ib.toInt64)), .second, .val (.long f0), .second, .val (.long s1), .second, .val (.long f1), .second, .val (.long s2), .second, .val (.long f2), .second, .val (.ref b48), .val (.ref b52), .val (.ref b57), .val (.ref b153), .unset, .unset] [])) _
      refine XS.aload X204.here hx rfl (hb hby at_293) rfl rfl ?_
      refine XS.iload X204.here hx rfl (hb hby at_295) rfl ?_
      show Steps p.tables e below (T204.setTop (mkF m 297 #[.val (.int im), .val (.int ib), .val (.int i0), .val (.int i1), .val (.int i2), .val (.long ga), .second, .val (.int (3 : Int32)), .val (.int (0 : Int32)), .val (.int (0 : Int32)), .val (.ref b1), .val (.long (ib.toInt64)), .second, .val (.long f0), .second, .val (.long s1), .second, .val (.long f1), .second, .val (.long s2), .second, .val (.long f2), .second, .val (.ref b48), .val (.ref b52), .val (.ref b57), .val (.ref b153), .unset, .unset] [(.int (0 : Int32)), (.ref b153)])) _
      refine XS.ifYes X204.here hx rfl (pc0 := 297) (pc' := 304) rfl (hb hby at_297) rfl ((if0 _ _).trans (teq (by decide : ((0 : Int32) = (0 : Int32)))).1) (by decide) (by decide) ?_
      refine XS.iconst X204.here hx rfl (hb hby at_304) ?_
      refine XS.iconst X204.here hx rfl (hb hby at_305) ?_
      refine st212.trans ?_
      refine XS.iload X212.here hx rfl (hb hby at_309) rfl ?_
      show Steps p.tables e below (T212.setTop (mkF m 311 #[.val (.int im), .val (.int ib), .val (.int i0), .val (.int i1), .val (.int i2), .val (.long ga), .second, .val (.int (3 : Int32)), .val (.int (0 : Int32)), .val (.int (0 : Int32)), .val (.ref b1), .val (.long (ib.toInt64)), .second, .val (.long f0), .second, .val (.long s1), .second, .val (.long f1), .second, .val (.long s2), .second, .val (.long f2), .second, .val (.ref b48), .val (.ref b52), .val (.ref b57), .val (.ref b153), .unset, .unset] [(.int (3 : Int32))])) _
      refine XS.iconst X212.here hx rfl (hb hby at_311) ?_
      show Steps p.tables e below (T212.setTop (mkF m 312 #[.val (.int im), .val (.int ib), .val (.int i0), .val (.int i1), .val (.int i2), .val (.long ga), .second, .val (.int (3 : Int32)), .val (.int (0 : Int32)), .val (.int (0 : Int32)), .val (.ref b1), .val (.long (ib.toInt64)), .second, .val (.long f0), .second, .val (.long s1), .second, .val (.long f1), .second, .val (.long s2), .second, .val (.long f2), .second, .val (.ref b48), .val (.ref b52), .val (.ref b57), .val (.ref b153), .unset, .unset] [(.int (3 : Int32)), (.int (3 : Int32))])) _
      refine XS.icmpNo X212.here hx rfl (hb hby at_312) rfl (teq (by decide : ((3 : Int32) = (3 : Int32)))).2 ?_
      refine XS.aload X212.here hx rfl (hb hby at_315) rfl rfl ?_
      refine XS.iload X212.here hx rfl (hb hby at_317) rfl ?_
      show Steps p.tables e below (T212.setTop (mkF m 319 #[.val (.int im), .val (.int ib), .val (.int i0), .val (.int i1), .val (.int i2), .val (.long ga), .second, .val (.int (3 : Int32)), .val (.int (0 : Int32)), .val (.int (0 : Int32)), .val (.ref b1), .val (.long (ib.toInt64)), .second, .val (.long f0), .second, .val (.long s1), .second, .val (.long f1), .second, .val (.long s2), .second, .val (.long f2), .second, .val (.ref b48), .val (.ref b52), .val (.ref b57), .val (.ref b153), .unset, .unset] [(.int (0 : Int32)), (.ref b153)])) _
      refine XS.ifYes X212.here hx rfl (pc0 := 319) (pc' := 326) rfl (hb hby at_319) rfl ((if0 _ _).trans (teq (by decide : ((0 : Int32) = (0 : Int32)))).1) (by decide) (by decide) ?_
      refine XS.iconst X212.here hx rfl (hb hby at_326) ?_
      refine XS.iconst X212.here hx rfl (hb hby at_327) ?_
      refine st220.trans ?_
      show Steps p.tables e below (T220.setTop (mkF m 331 #[.val (.int im), .val (.int ib), .val (.int i0), .val (.int i1), .val (.int i2), .val (.long ga), .second, .val (.int (3 : Int32)), .val (.int (0 : Int32)), .val (.int (0 : Int32)), .val (.ref b1), .val (.long (ib.toInt64)), .second, .val (.long f0), .second, .val (.long s1), .second, .val (.long f1), .second, .val (.long s2), .second, .val (.long f2), .second, .val (.ref b48), .val (.ref b52), .val (.ref b57), .val (.ref b153), .unset, .unset] [])) _
      refine XS.lconst X220.here hx rfl (hb hby at_331) ?_
      refine XS.lstore X220.here hx rfl (hb hby at_332) rfl (l' := #[.val (.int im), .val (.int ib), .val (.int i0), .val (.int i1), .val (.int i2), .val (.long ga), .second, .val (.int (3 : Int32)), .val (.int (0 : Int32)), .val (.int (0 : Int32)), .val (.ref b1), .val (.long (ib.toInt64)), .second, .val (.long f0), .second, .val (.long s1), .second, .val (.long f1), .second, .val (.long s2), .second, .val (.long f2), .second, .val (.ref b48), .val (.ref b52), .val (.ref b57), .val (.ref b153), .val (.long (0 : Int64)), .second]) rfl ?_
      refine XS.iload X220.here hx rfl (hb hby at_334) rfl ?_
      refine XS.iconst X220.here hx rfl (hb hby at_336) ?_
      show Steps p.tables e below (T220.setTop (mkF m 337 #[.val (.int im), .val (.int ib), .val (.int i0), .val (.int i1), .val (.int i2), .val (.long ga), .second, .val (.int (3 : Int32)), .val (.int (0 : Int32)), .val (.int (0 : Int32)), .val (.ref b1), .val (.long (ib.toInt64)), .second, .val (.long f0), .second, .val (.long s1), .second, .val (.long f1), .second, .val (.long s2), .second, .val (.long f2), .second, .val (.ref b48), .val (.ref b52), .val (.ref b57), .val (.ref b153), .val (.long (0 : Int64)), .second] [(.int (1 : Int32)), (.int (3 : Int32))])) _
      refine XS.icmpNo X220.here hx rfl (hb hby at_337) rfl (flt (by decide : ¬ ((3 : Int32) < (1 : Int32)))).1 ?_
      refine XS.aload X220.here hx rfl (hb hby at_340) rfl rfl ?_
      refine XS.iconst X220.here hx rfl (hb hby at_342) ?_
      show Steps p.tables e below (T220.setTop (mkF m 343 #[.val (.int im), .val (.int ib), .val (.int i0), .val (.int i1), .val (.int i2), .val (.long ga), .second, .val (.int (3 : Int32)), .val (.int (0 : Int32)), .val (.int (0 : Int32)), .val (.ref b1), .val (.long (ib.toInt64)), .second, .val (.long f0), .second, .val (.long s1), .second, .val (.long f1), .second, .val (.long s2), .second, .val (.long f2), .second, .val (.ref b48), .val (.ref b52), .val (.ref b57), .val (.ref b153), .val (.long (0 : Int64)), .second] [(.int (0 : Int32)), (.ref b57)])) _
      refine X220.laload hx (j := (0 : Int32)) (v := (.long f2)) (by exact Arq228.1) (State.isArrayOf_alike hZ.alike Arq228.2.1) Arq228.2.2 hiq228 haq228 (g := (mkF m 343 #[.val (.int im), .val (.int ib), .val (.int i0), .val (.int i1), .val (.int i2), .val (.long ga), .second, .val (.int (3 : Int32)), .val (.int (0 : Int32)), .val (.int (0 : Int32)), .val (.ref b1), .val (.long (ib.toInt64)), .second, .val (.long f0), .second, .val (.long s1), .second, .val (.long f1), .second, .val (.long s2), .second, .val (.long f2), .second, .val (.ref b48), .val (.ref b52), .val (.ref b57), .val (.ref b153), .val (.long (0 : Int64)), .second] [(.int (0 : Int32)), (.ref b57)])) rfl rfl (hb hby at_343) _ ?_
      refine XS.lstore X220.here hx rfl (hb hby at_344) rfl (l' := #[.val (.int im), .val (.int ib), .val (.int i0), .val (.int i1), .val (.int i2), .val (.long ga), .second, .val (.int (3 : Int32)), .val (.int (0 : Int32)), .val (.int (0 : Int32)), .val (.ref b1), .val (.long (ib.toInt64)), .second, .val (.long f0), .second, .val (.long s1), .second, .val (.long f1), .second, .val (.long s2), .second, .val (.long f2), .second, .val (.ref b48), .val (.ref b52), .val (.ref b57), .val (.ref b153), .val (.long f2), .second]) rfl ?_
      refine XS.iload X220.here hx rfl (hb hby at_346) rfl ?_
      refine XS.iconst X220.here hx rfl (hb hby at_348) ?_
      show Steps p.tables e below (T220.setTop (mkF m 349 #[.val (.int im), .val (.int ib), .val (.int i0), .val (.int i1), .val (.int i2), .val (.long ga), .second, .val (.int (3 : Int32)), .val (.int (0 : Int32)), .val (.int (0 : Int32)), .val (.ref b1), .val (.long (ib.toInt64)), .second, .val (.long f0), .second, .val (.long s1), .second, .val (.long f1), .second, .val (.long s2), .second, .val (.long f2), .second, .val (.ref b48), .val (.ref b52), .val (.ref b57), .val (.ref b153), .val (.long f2), .second] [(.int (2 : Int32)), (.int (3 : Int32))])) _
      refine XS.icmpNo X220.here hx rfl (hb hby at_349) rfl (flt (by decide : ¬ ((3 : Int32) < (2 : Int32)))).1 ?_
      refine XS.lload X220.here hx rfl (hb hby at_352) rfl ?_
      refine XS.aload X220.here hx rfl (hb hby at_354) rfl rfl ?_
      show Steps p.tables e below (T220.setTop (mkF m 356 #[.val (.int im), .val (.int ib), .val (.int i0), .val (.int i1), .val (.int i2), .val (.long ga), .second, .val (.int (3 : Int32)), .val (.int (0 : Int32)), .val (.int (0 : Int32)), .val (.ref b1), .val (.long (ib.toInt64)), .second, .val (.long f0), .second, .val (.long s1), .second, .val (.long f1), .second, .val (.long s2), .second, .val (.long f2), .second, .val (.ref b48), .val (.ref b52), .val (.ref b57), .val (.ref b153), .val (.long f2), .second] [(.ref b57), (.long f2)])) _
      refine XS.iconst X220.here hx rfl (hb hby at_356) ?_
      refine X220.laload hx (j := (1 : Int32)) (v := (.long f1)) (by exact Arq229.1) (State.isArrayOf_alike hZ.alike Arq229.2.1) Arq229.2.2 hiq229 haq229 (g := (mkF m 357 #[.val (.int im), .val (.int ib), .val (.int i0), .val (.int i1), .val (.int i2), .val (.long ga), .second, .val (.int (3 : Int32)), .val (.int (0 : Int32)), .val (.int (0 : Int32)), .val (.ref b1), .val (.long (ib.toInt64)), .second, .val (.long f0), .second, .val (.long s1), .second, .val (.long f1), .second, .val (.long s2), .second, .val (.long f2), .second, .val (.ref b48), .val (.ref b52), .val (.ref b57), .val (.ref b153), .val (.long f2), .second] [(.int (1 : Int32)), (.ref b57), (.long f2)])) rfl rfl (hb hby at_357) _ ?_
      refine st230 _ ?_
      refine XS.lstore X230.here hx rfl (hb hby at_361) rfl (l' := #[.val (.int im), .val (.int ib), .val (.int i0), .val (.int i1), .val (.int i2), .val (.long ga), .second, .val (.int (3 : Int32)), .val (.int (0 : Int32)), .val (.int (0 : Int32)), .val (.ref b1), .val (.long (ib.toInt64)), .second, .val (.long f0), .second, .val (.long s1), .second, .val (.long f1), .second, .val (.long s2), .second, .val (.long f2), .second, .val (.ref b48), .val (.ref b52), .val (.ref b57), .val (.ref b153), .val (.long (own_max f2 f1)), .second]) rfl ?_
      refine XS.iload X230.here hx rfl (hb hby at_363) rfl ?_
      refine XS.iconst X230.here hx rfl (hb hby at_365) ?_
      show Steps p.tables e below (T230.setTop (mkF m 366 #[.val (.int im), .val (.int ib), .val (.int i0), .val (.int i1), .val (.int i2), .val (.long ga), .second, .val (.int (3 : Int32)), .val (.int (0 : Int32)), .val (.int (0 : Int32)), .val (.ref b1), .val (.long (ib.toInt64)), .second, .val (.long f0), .second, .val (.long s1), .second, .val (.long f1), .second, .val (.long s2), .second, .val (.long f2), .second, .val (.ref b48), .val (.ref b52), .val (.ref b57), .val (.ref b153), .val (.long (own_max f2 f1)), .second] [(.int (3 : Int32)), (.int (3 : Int32))])) _
      refine XS.icmpNo X230.here hx rfl (hb hby at_366) rfl (teq (by decide : ((3 : Int32) = (3 : Int32)))).2 ?_
      show Steps p.tables e below (T230.setTop (mkF m 369 #[.val (.int im), .val (.int ib), .val (.int i0), .val (.int i1), .val (.int i2), .val (.long ga), .second, .val (.int (3 : Int32)), .val (.int (0 : Int32)), .val (.int (0 : Int32)), .val (.ref b1), .val (.long (ib.toInt64)), .second, .val (.long f0), .second, .val (.long s1), .second, .val (.long f1), .second, .val (.long s2), .second, .val (.long f2), .second, .val (.ref b48), .val (.ref b52), .val (.ref b57), .val (.ref b153), .val (.long (own_max f2 f1)), .second] [])) _
      refine XS.lload X230.here hx rfl (hb hby at_369) rfl ?_
      refine XS.aload X230.here hx rfl (hb hby at_371) rfl rfl ?_
      refine XS.iconst X230.here hx rfl (hb hby at_373) ?_
      refine X230.laload hx (j := (2 : Int32)) (v := (.long f0)) (by rw [e230]; exact Arq231.1) (State.isArrayOf_alike hZ.alike Arq231.2.1) Arq231.2.2 hiq231 haq231 (g := (mkF m 374 #[.val (.int im), .val (.int ib), .val (.int i0), .val (.int i1), .val (.int i2), .val (.long ga), .second, .val (.int (3 : Int32)), .val (.int (0 : Int32)), .val (.int (0 : Int32)), .val (.ref b1), .val (.long (ib.toInt64)), .second, .val (.long f0), .second, .val (.long s1), .second, .val (.long f1), .second, .val (.long s2), .second, .val (.long f2), .second, .val (.ref b48), .val (.ref b52), .val (.ref b57), .val (.ref b153), .val (.long (own_max f2 f1)), .second] [(.int (2 : Int32)), (.ref b57), (.long (own_max f2 f1))])) rfl rfl (hb hby at_374) _ ?_
      refine st232 _ ?_
      refine XS.lstore X232.here hx rfl (hb hby at_378) rfl (l' := #[.val (.int im), .val (.int ib), .val (.int i0), .val (.int i1), .val (.int i2), .val (.long ga), .second, .val (.int (3 : Int32)), .val (.int (0 : Int32)), .val (.int (0 : Int32)), .val (.ref b1), .val (.long (ib.toInt64)), .second, .val (.long f0), .second, .val (.long s1), .second, .val (.long f1), .second, .val (.long s2), .second, .val (.long f2), .second, .val (.ref b48), .val (.ref b52), .val (.ref b57), .val (.ref b153), .val (.long (own_max (own_max f2 f1) f0)), .second]) rfl ?_
      show Steps p.tables e below (T232.setTop (mkF m 380 #[.val (.int im), .val (.int ib), .val (.int i0), .val (.int i1), .val (.int i2), .val (.long ga), .second, .val (.int (3 : Int32)), .val (.int (0 : Int32)), .val (.int (0 : Int32)), .val (.ref b1), .val (.long (ib.toInt64)), .second, .val (.long f0), .second, .val (.long s1), .second, .val (.long f1), .second, .val (.long s2), .second, .val (.long f2), .second, .val (.ref b48), .val (.ref b52), .val (.ref b57), .val (.ref b153), .val (.long (own_max (own_max f2 f1) f0)), .second] [])) _
      refine XS.aload X232.here hx rfl (hb hby at_380) rfl rfl ?_
      refine st233.trans ?_
      refine XS.lload X233.here hx rfl (hb hby at_385) rfl ?_
      show Steps p.tables e below (T233.setTop (mkF m 387 #[.val (.int im), .val (.int ib), .val (.int i0), .val (.int i1), .val (.int i2), .val (.long ga), .second, .val (.int (3 : Int32)), .val (.int (0 : Int32)), .val (.int (0 : Int32)), .val (.ref b1), .val (.long (ib.toInt64)), .second, .val (.long f0), .second, .val (.long s1), .second, .val (.long f1), .second, .val (.long s2), .second, .val (.long f2), .second, .val (.ref b48), .val (.ref b52), .val (.ref b57), .val (.ref b153), .val (.long (own_max (own_max f2 f1) f0)), .second] [(.long (own_max (own_max f2 f1) f0)), (.double (FP.l2d f2))])) _
      refine XS.l2dS X233.here hx rfl (hb hby at_387) rfl rfl ?_
      show Steps p.tables e below (T233.setTop (mkF m 388 #[.val (.int im), .val (.int ib), .val (.int i0), .val (.int i1), .val (.int i2), .val (.long ga), .second, .val (.int (3 : Int32)), .val (.int (0 : Int32)), .val (.int (0 : Int32)), .val (.ref b1), .val (.long (ib.toInt64)), .second, .val (.long f0), .second, .val (.long s1), .second, .val (.long f1), .second, .val (.long s2), .second, .val (.long f2), .second, .val (.ref b48), .val (.ref b52), .val (.ref b57), .val (.ref b153), .val (.long (own_max (own_max f2 f1) f0)), .second] [(.double (FP.l2d (own_max (own_max f2 f1) f0))), (.double (FP.l2d f2))])) _
      refine XS.dcmpS X233.here hx rfl (hb hby at_388) rfl (v := (0 : Int32)) (own_cmp (show f2 = (own_max (own_max f2 f1) f0) from ((congrArg (fun z => own_max z f0) ((congrArg (fun z => own_max z f1) rfl).trans (own_max_l ho.2.1))).trans (own_max_l ho.2.2)).symm)) ?_
      show Steps p.tables e below (T233.setTop (mkF m 389 #[.val (.int im), .val (.int ib), .val (.int i0), .val (.int i1), .val (.int i2), .val (.long ga), .second, .val (.int (3 : Int32)), .val (.int (0 : Int32)), .val (.int (0 : Int32)), .val (.ref b1), .val (.long (ib.toInt64)), .second, .val (.long f0), .second, .val (.long s1), .second, .val (.long f1), .second, .val (.long s2), .second, .val (.long f2), .second, .val (.ref b48), .val (.ref b52), .val (.ref b57), .val (.ref b153), .val (.long (own_max (own_max f2 f1) f0)), .second] [(.int (0 : Int32))])) _
      refine XS.ifNo X233.here hx rfl (hb hby at_389) rfl ((if0 _ _).trans (teq (by decide : ((0 : Int32) = (0 : Int32)))).2) ?_
      refine XS.iconst X233.here hx rfl (hb hby at_392) ?_
      refine XS.goto X233.here hx rfl (pc0 := 393) (pc' := 397) rfl (hb hby at_393) (by decide) (by decide) ?_
      show Steps p.tables e below (T233.setTop (mkF m 397 #[.val (.int im), .val (.int ib), .val (.int i0), .val (.int i1), .val (.int i2), .val (.long ga), .second, .val (.int (3 : Int32)), .val (.int (0 : Int32)), .val (.int (0 : Int32)), .val (.ref b1), .val (.long (ib.toInt64)), .second, .val (.long f0), .second, .val (.long s1), .second, .val (.long f1), .second, .val (.long s2), .second, .val (.long f2), .second, .val (.ref b48), .val (.ref b52), .val (.ref b57), .val (.ref b153), .val (.long (own_max (own_max f2 f1) f0)), .second] [(.int (1 : Int32))])) _
      exact retN X233 hx (t := .boolean) Bd.returns (by simp) (hb hby at_397) hr
    · show own_Q0 Z im ib i0 i1 i2 ga h0 n0 _ T233.heap _
      rw [e233]
      exact ⟨rfl, N233⟩
theorem rm0 (l : Launch) (Z : State) (a0 : Array Value) (hw : ∀ d ∈ tables_1, d.before a0 Z = true) (ws : List Jvm.Cond) (im ib i0 i1 i2 : Int32) (ga : Int64) (h0 : Heap) (n0 : Nat) (Z0 : n0 ≤ h0.size) :
    MetFree l x (head1 (Jvm.Cond.code x code maxLocals ret :: ws) room_1) (fun a U => a = #[(.int im), (.int ib), (.int i0), (.int i1), (.int i2), (.long ga)] ∧ Z.Warmed39 U.vm ∧ U.heap = h0) (fun _ _ _ _ _ => True) (fun _ U o U' => ∃ v L, o = .returned v ∧ own_Q0 Z im ib i0 i1 i2 ga h0 n0 v U'.heap L ∧ FrameEnd U o U' L room_1.cells room_1.slots) := by
  by_cases he1 : (im &&& (4 : Int32)) = (0 : Int32)
  · by_cases he2 : (im &&& (8 : Int32)) = (0 : Int32)
    · exact rm0_00 l Z a0 hw ws im ib i0 i1 i2 ga h0 n0 Z0 he1 he2
    · exact rm0_01 l Z a0 hw ws im ib i0 i1 i2 ga h0 n0 Z0 he1 he2
  · by_cases he2 : (im &&& (8 : Int32)) = (0 : Int32)
    · exact rm0_10 l Z a0 hw ws im ib i0 i1 i2 ga h0 n0 Z0 he1 he2
    · exact rm0_11 l Z a0 hw ws im ib i0 i1 i2 ga h0 n0 Z0 he1 he2
set_option maxRecDepth 65536 in
set_option maxHeartbeats 40000000 in
theorem comes_1 {Post : Tables → Env → Array Value → State → Outcome → State → Prop} (hpost : ∀ tb e args s v u, (limb_1_1.after args s (.returned v) u = true ∧ limb_1_2.after args s (.returned v) u = true ∧ True) → FrameEnd s (.returned v) u (Jvm.fieldLocs frame_1_writes args s ++ Jvm.arrayLocs frame_1_arrays args s ++ Jvm.staticLocs frame_1_statics s) 24 128 → Post tb e args s (.returned v) u) :
    ArmFor flags0 classFile x code maxLocals ret World_1 tables_1 room_1 Calls_1 rest_1 Pre_1 Post := by
  intro l hfl _ _ p e ha hc hk s m args below hf hA hF happ hP
  obtain ⟨hcalls, hrest, hpre⟩ := hP
  obtain ⟨-, -, -, hnamed, -, -, -, hat⟩ := (Spec.applies_iff hf).mp happ
  obtain ⟨hg, hn⟩ := and_e (Cond.before_iff.mp (show (Jvm.Cond.and given_1 narrow_1).before args s = true from hpre))
  obtain ⟨hcount, hg0⟩ := and_e hg
  obtain ⟨hv0, hg1⟩ := and_e hg0
  obtain ⟨hv1, hg2⟩ := and_e hg1
  obtain ⟨hv2, hg3⟩ := and_e hg2
  obtain ⟨hv3, hg4⟩ := and_e hg3
  obtain ⟨hv4, hg5⟩ := and_e hg4
  have hv5 := hg5
  obtain ⟨w0, w1, w2, w3, w4, w5, rfl⟩ : ∃ w0 w1 w2 w3 w4 w5 : Value, args = #[w0, w1, w2, w3, w4, w5] := by
    have hs : args.size = 6 := by simpa [Cond.value, given_1] using hcount
    obtain ⟨L⟩ := args
    match L, hs with
    | [w0, w1, w2, w3, w4, w5], _ => exact ⟨w0, w1, w2, w3, w4, w5, rfl⟩
  have hw := fun d (hd : d ∈ tables_1) => atoms_spec (ws := Jvm.Cond.code x code maxLocals ret :: tables_1) hat d (List.mem_cons_of_mem _ hd)
  have hfit : Fit s := fun {y c} hc i hi => by
    obtain ⟨ha, rfl⟩ := Array.getElem?_eq_some_iff.mp hc
    have q := List.all_eq_true.mp ((Array.all_eq_true_iff_forall_mem.mp hF) _ (Array.getElem_mem ha)) i (List.mem_range.mpr hi)
    simpa [Array.getElem?_eq_getElem hi] using q
  obtain ⟨i0, ei0⟩ := is_v hv0
  obtain rfl : w0 = (.int i0) := Option.some.inj ei0
  obtain ⟨i1, ei1⟩ := is_v hv1
  obtain rfl : w1 = (.int i1) := Option.some.inj ei1
  obtain ⟨i2, ei2⟩ := is_v hv2
  obtain rfl : w2 = (.int i2) := Option.some.inj ei2
  obtain ⟨i3, ei3⟩ := is_v hv3
  obtain rfl : w3 = (.int i3) := Option.some.inj ei3
  obtain ⟨i4, ei4⟩ := is_v hv4
  obtain rfl : w4 = (.int i4) := Option.some.inj ei4
  obtain ⟨i5, ei5⟩ := isL_v hv5
  obtain rfl : w5 = (.long i5) := Option.some.inj ei5
  obtain ⟨n, o, h1, h2, h3, _, L, rfl, ⟨rfl, N⟩, hq⟩ := rm0 l s _ hw tables_1 i0 i1 i2 i3 i4 i5 s.heap s.heap.size (Nat.le_refl _)  p e ha hc hk s m _ below hf ((Spec.applies_iff_loose hf).mp happ).1 ⟨rfl, State.Warmed39.refl s, rfl⟩ trivial
  refine ⟨n, _, h1, h2, h3, hpost _ _ _ _ _ _ ⟨Cond.after_iff.mpr rfl, Cond.after_iff.mpr (eq_i res_at (Term.int_eval (1)) rfl), trivial⟩ ⟨hq.1, hq.2.1, (hq.2.2.sift fun y hy => Or.inr (N y hy)).mono (by decide) (by decide)⟩⟩
theorem main_1_1 : Claimed_1_1 := comes_1 fun _ _ _ _ _ _ h hF => ⟨h.1, hF⟩
theorem main_1_2 : Claimed_1_2 := comes_1 fun _ _ _ _ _ _ h hF => ⟨h.2.1, hF⟩
end Jvm.Pilot.@@N@@
namespace Jvm.Pilot.@@N@@
open Jvm Jvm.ClassFile Sem Op Lib Jvm.Free Jvm.Stand Jvm.Pilot.@@N@@.Jvm.D
/-! MADE BY PROGRAM (witnessworld.py) out of the Statement's table words and the real class files: 15 classes; the members and pool entries that the words name. The judged class is class 1, her method 1. -/
namespace start1
open Jvm.ClassFile
def u (s : String) : CpInfo := .utf8 (stringToUtf16 s)
/-- a pool by its gaps: so many unusable entries, then the entry; so many at the end -/
def gap : Nat → List CpInfo → List CpInfo
  | 0, r => r
  | n + 1, r => .unusable :: gap n r
def poolList (es : List (Nat × CpInfo)) (last : Nat) : List CpInfo := es.foldr (fun e r => gap e.1 (e.2 :: r)) (gap last [])
def pool (es : List (Nat × CpInfo)) (last : Nat) : Array CpInfo := ⟨poolList es last⟩
def fileOf (pool : Array CpInfo) (this : Nat) (attrs : Array Attribute := #[]) (ms : Array MethodInfo := #[]) (fl : Nat := 33) (sup : Nat := 0) (ifs : Array Nat := #[]) (fds : Array FieldInfo := #[]) : ClassFile where
  minorVersion := 0
  majorVersion := 65
  constantPool := pool
  accessFlags := fl
  thisClass := this
  superClass := sup
  interfaces := ifs
  fields := fds
  methods := ms
  attributes := attrs
def plain (name : String) (sup : Option ClassId) : Class where
  name := name
  kind := .ordinary
  loader := none
  accessFlags := 33
  super := sup
  interfaces := #[]
  cf := none
  fields := #[]
  methods := #[]
  instanceTypes := #[]
  staticTypes := #[]
  resolved := #[]
  callSites := []
  init := .initialized
  statics := none
  mirror := none

def pool0 : Array CpInfo := pool [(5, u "<init>"), (0, u "()V"), (1, .class_ 10), (1, u "java/lang/Object")] 113

def k0c0 : Code := { maxStack := 0, maxLocals := 1, code := object_method_1_code, exceptionTable := #[], attributes := #[] }
def k0m0 : Method := { name := "<init>", desc := "()V", sig := { parameters := [], returnType := none }, accessFlags := 1, code := some k0c0 }
/-- java/lang/Object -/
def k0 : Class := { plain "java/lang/Object" none with
  accessFlags := 33
  interfaces := #[]
  cf := some (fileOf pool0 8 #[] #[{ accessFlags := 1, nameIndex := 5, descriptorIndex := 6, attributes := #[] }] 33 0 #[] #[])
  fields := #[]
  methods := #[k0m0]
  instanceTypes := #[]
  staticTypes := #[]
  resolved := Array.replicate 124 none
  statics := none }

def pool1 : Array CpInfo := pool [(2, .class_ 4), (1, u "java/lang/Object"), (0, u "<init>"), (0, u "()V"), (0, .integer 2147483647), (0, .long 1048575), (1, .class_ 11), (0, u "com/example/makespun/makespun/simulate/Timeline"), (0, .methodref 10 13), (0, .nameAndType 5 14), (0, u "([D[D)V"), (0, .methodref 10 16), (0, .nameAndType 17 18), (0, u "add"), (0, u "(II)V"), (0, .methodref 20 21), (0, .class_ 22), (0, .nameAndType 23 24), (0, u "java/lang/Math"), (0, u "max"), (0, u "(JJ)J"), (0, .methodref 10 26), (0, .nameAndType 27 28), (0, u "freeAt"), (0, u "()D"), (0, .class_ 30), (0, u "com/example/makespun/makespun/simulate/TimelineFreeAtPinLaw"), (2, u "law"), (0, u "(IIIIIJ)Z")] 9

def k1m0 : Method := { name := "<init>", desc := "()V", sig := { parameters := [], returnType := none }, accessFlags := 1, code := none }
def k1c1 : Code := { maxStack := 6, maxLocals := 29, code := code, exceptionTable := #[], attributes := #[] }
def k1m1 : Method := { name := "law", desc := "(IIIIIJ)Z", sig := { parameters := [.int, .int, .int, .int, .int, .long], returnType := some .boolean }, accessFlags := 9, code := some k1c1 }
/-- com/example/makespun/makespun/simulate/TimelineFreeAtPinLaw -/
def k1 : Class := { plain "com/example/makespun/makespun/simulate/TimelineFreeAtPinLaw" (some 0) with
  accessFlags := 49
  interfaces := #[]
  cf := some (fileOf pool1 29 #[] #[{ accessFlags := 1, nameIndex := 5, descriptorIndex := 6, attributes := #[] }, { accessFlags := 9, nameIndex := 33, descriptorIndex := 34, attributes := #[] }] 49 2 #[] #[])
  fields := #[]
  methods := #[k1m0, k1m1]
  instanceTypes := #[]
  staticTypes := #[]
  resolved := Array.replicate 44 none
  statics := none }

def pool2 : Array CpInfo := pool [(1, .methodref 2 3), (0, .class_ 4), (0, .nameAndType 5 6), (0, u "java/lang/Object"), (0, u "<init>"), (0, u "()V"), (0, .fieldref 8 9), (0, .class_ 10), (0, .nameAndType 11 12), (0, u "com/example/makespun/makespun/simulate/Timeline"), (0, u "tasks"), (0, u "[I"), (0, .fieldref 8 14), (0, .nameAndType 15 16), (0, u "starts"), (0, u "[D"), (0, .fieldref 8 18), (0, .nameAndType 19 16), (0, u "finishes"), (0, .fieldref 8 21), (0, .nameAndType 22 23), (0, u "size"), (0, u "I"), (11, .fieldref 8 36), (0, .nameAndType 37 38), (0, u "idleIntervals"), (0, u "Ljava/util/NavigableMap;"), (15, u "()D"), (46, u "(II)V"), (6, .methodref 109 110), (0, .class_ 111), (0, .nameAndType 112 113), (0, u "java/lang/System"), (0, u "arraycopy"), (0, u "(Ljava/lang/Object;ILjava/lang/Object;II)V"), (18, u "([D[D)V"), (5, u "freeAt"), (5, u "add")] 30

def k2c0 : Code := { maxStack := 2, maxLocals := 3, code := prog_82_method_1_code, exceptionTable := #[], attributes := #[] }
def k2m0 : Method := { name := "<init>", desc := "([D[D)V", sig := { parameters := [(.array .double), (.array .double)], returnType := none }, accessFlags := 0, code := some k2c0 }
def k2c1 : Code := { maxStack := 4, maxLocals := 1, code := prog_82_method_4_code, exceptionTable := #[], attributes := #[] }
def k2m1 : Method := { name := "freeAt", desc := "()D", sig := { parameters := [], returnType := some .double }, accessFlags := 0, code := some k2c1 }
def k2c2 : Code := { maxStack := 6, maxLocals := 3, code := prog_82_method_7_code, exceptionTable := #[], attributes := #[] }
def k2m2 : Method := { name := "add", desc := "(II)V", sig := { parameters := [.int, .int], returnType := none }, accessFlags := 0, code := some k2c2 }
/-- com/example/makespun/makespun/simulate/Timeline -/
def k2 : Class := { plain "com/example/makespun/makespun/simulate/Timeline" (some 0) with
  accessFlags := 48
  interfaces := #[]
  cf := some (fileOf pool2 8 #[] #[{ accessFlags := 0, nameIndex := 5, descriptorIndex := 132, attributes := #[] }, { accessFlags := 0, nameIndex := 138, descriptorIndex := 54, attributes := #[] }, { accessFlags := 0, nameIndex := 144, descriptorIndex := 101, attributes := #[] }] 48 2 #[] #[{ accessFlags := 18, nameIndex := 15, descriptorIndex := 16, attributes := #[] }, { accessFlags := 18, nameIndex := 19, descriptorIndex := 16, attributes := #[] }, { accessFlags := 2, nameIndex := 11, descriptorIndex := 12, attributes := #[] }, { accessFlags := 2, nameIndex := 22, descriptorIndex := 23, attributes := #[] }, { accessFlags := 2, nameIndex := 37, descriptorIndex := 38, attributes := #[] }])
  fields := #[{ name := "starts", type := (.array .double), accessFlags := 18, slot := 0, constantValue := 0 }, { name := "finishes", type := (.array .double), accessFlags := 18, slot := 1, constantValue := 0 }, { name := "tasks", type := (.array .int), accessFlags := 2, slot := 2, constantValue := 0 }, { name := "size", type := .int, accessFlags := 2, slot := 3, constantValue := 0 }, { name := "idleIntervals", type := (.object "java/util/NavigableMap"), accessFlags := 2, slot := 4, constantValue := 0 }]
  methods := #[k2m0, k2m1, k2m2]
  instanceTypes := #[(.array .double), (.array .double), (.array .int), .int, (.object "java/util/NavigableMap")]
  staticTypes := #[]
  resolved := Array.replicate 175 none
  statics := none }

def pool3 : Array CpInfo := pool [(2, .class_ 4), (1, u "java/lang/Object"), (0, u "<init>"), (0, u "()V"), (1, .class_ 10), (1, u "java/lang/System"), (0, u "allowSecurityManager"), (0, u "I"), (16, u "cons"), (0, u "Ljava/io/Console;"), (77, .class_ 110), (1, u "java/lang/System$CallersHolder"), (43, u "initialErrStream"), (0, u "Ljava/io/PrintStream;"), (19, u "security"), (0, u "Ljava/lang/SecurityManager;"), (31, .class_ 209), (0, u "java/lang/System$1"), (7, u "props"), (0, u "Ljava/util/Properties;"), (2, u "lineSeparator"), (0, u "Ljava/lang/String;"), (96, .class_ 321), (1, u "java/lang/System$LoggerFinder"), (5, .class_ 328), (0, u "java/lang/System$Logger"), (67, u "err"), (2, u "out"), (91, u "notSupportedJnuEncoding"), (15, u "in"), (17, u "initialIn"), (0, u "Ljava/io/InputStream;"), (35, u "bootLayer"), (0, u "Ljava/lang/ModuleLayer;"), (99, .class_ 664), (0, u "java/lang/System$2"), (9, u "NEVER"), (2, u "MAYBE"), (49, u "arraycopy"), (0, u "(Ljava/lang/Object;ILjava/lang/Object;II)V"), (72, .class_ 802), (0, u "java/lang/System$Logger$Level")] 31

def k3m0 : Method := { name := "<init>", desc := "()V", sig := { parameters := [], returnType := none }, accessFlags := 2, code := none }
def k3m1 : Method := { name := "arraycopy", desc := "(Ljava/lang/Object;ILjava/lang/Object;II)V", sig := { parameters := [(.object "java/lang/Object"), .int, (.object "java/lang/Object"), .int, .int], returnType := none }, accessFlags := 265, code := none }
/-- java/lang/System -/
def k3 : Class := { plain "java/lang/System" (some 0) with
  accessFlags := 49
  interfaces := #[]
  cf := some (fileOf pool3 8 #[.nestMembers #[319, 327, 801, 108, 663, 208]] #[{ accessFlags := 2, nameIndex := 5, descriptorIndex := 6, attributes := #[] }, { accessFlags := 265, nameIndex := 727, descriptorIndex := 728, attributes := #[] }] 49 2 #[] #[{ accessFlags := 25, nameIndex := 507, descriptorIndex := 526, attributes := #[] }, { accessFlags := 25, nameIndex := 399, descriptorIndex := 155, attributes := #[] }, { accessFlags := 25, nameIndex := 396, descriptorIndex := 155, attributes := #[] }, { accessFlags := 10, nameIndex := 525, descriptorIndex := 526, attributes := #[] }, { accessFlags := 26, nameIndex := 674, descriptorIndex := 12, attributes := #[] }, { accessFlags := 26, nameIndex := 677, descriptorIndex := 12, attributes := #[] }, { accessFlags := 10, nameIndex := 11, descriptorIndex := 12, attributes := #[] }, { accessFlags := 74, nameIndex := 175, descriptorIndex := 176, attributes := #[] }, { accessFlags := 10, nameIndex := 491, descriptorIndex := 222, attributes := #[] }, { accessFlags := 74, nameIndex := 29, descriptorIndex := 30, attributes := #[] }, { accessFlags := 74, nameIndex := 154, descriptorIndex := 155, attributes := #[] }, { accessFlags := 10, nameIndex := 217, descriptorIndex := 218, attributes := #[] }, { accessFlags := 10, nameIndex := 221, descriptorIndex := 222, attributes := #[] }, { accessFlags := 8, nameIndex := 562, descriptorIndex := 563, attributes := #[] }])
  fields := #[{ name := "in", type := (.object "java/io/InputStream"), accessFlags := 25, slot := 0, constantValue := 0 }, { name := "out", type := (.object "java/io/PrintStream"), accessFlags := 25, slot := 1, constantValue := 0 }, { name := "err", type := (.object "java/io/PrintStream"), accessFlags := 25, slot := 2, constantValue := 0 }, { name := "initialIn", type := (.object "java/io/InputStream"), accessFlags := 10, slot := 3, constantValue := 0 }, { name := "NEVER", type := .int, accessFlags := 26, slot := 4, constantValue := 0 }, { name := "MAYBE", type := .int, accessFlags := 26, slot := 5, constantValue := 0 }, { name := "allowSecurityManager", type := .int, accessFlags := 10, slot := 6, constantValue := 0 }, { name := "security", type := (.object "java/lang/SecurityManager"), accessFlags := 74, slot := 7, constantValue := 0 }, { name := "notSupportedJnuEncoding", type := (.object "java/lang/String"), accessFlags := 10, slot := 8, constantValue := 0 }, { name := "cons", type := (.object "java/io/Console"), accessFlags := 74, slot := 9, constantValue := 0 }, { name := "initialErrStream", type := (.object "java/io/PrintStream"), accessFlags := 74, slot := 10, constantValue := 0 }, { name := "props", type := (.object "java/util/Properties"), accessFlags := 10, slot := 11, constantValue := 0 }, { name := "lineSeparator", type := (.object "java/lang/String"), accessFlags := 10, slot := 12, constantValue := 0 }, { name := "bootLayer", type := (.object "java/lang/ModuleLayer"), accessFlags := 8, slot := 13, constantValue := 0 }]
  methods := #[k3m0, k3m1]
  instanceTypes := #[]
  staticTypes := #[(.object "java/io/InputStream"), (.object "java/io/PrintStream"), (.object "java/io/PrintStream"), (.object "java/io/InputStream"), .int, .int, .int, (.object "java/lang/SecurityManager"), (.object "java/lang/String"), (.object "java/io/Console"), (.object "java/io/PrintStream"), (.object "java/util/Properties"), (.object "java/lang/String"), (.object "java/lang/ModuleLayer")]
  resolved := Array.replicate 834 none
  statics := none }

def pool4 : Array CpInfo := pool [(1, .class_ 2), (0, u "java/lang/Math"), (1, .class_ 6), (1, u "java/lang/Object"), (0, u "<init>"), (0, u "()V"), (89, .class_ 100), (1, u "java/lang/Math$RandomNumberGeneratorHolder"), (20, u "(JJ)J"), (50, u "negativeZeroFloatBits"), (0, u "J"), (2, u "negativeZeroDoubleBits"), (21, u "max"), (46, u "$assertionsDisabled"), (0, u "Z"), (91, u "twoToTheDoubleScaleDown"), (0, u "D"), (4, u "twoToTheDoubleScaleUp"), (9, u "E"), (3, u "PI"), (2, u "TAU"), (2, u "DEGREES_TO_RADIANS"), (0, u "RADIANS_TO_DEGREES")] 94

def k4m0 : Method := { name := "<init>", desc := "()V", sig := { parameters := [], returnType := none }, accessFlags := 2, code := none }
def k4c1 : Code := { maxStack := 4, maxLocals := 4, code := jdk_29_method_66_code, exceptionTable := #[], attributes := #[] }
def k4m1 : Method := { name := "max", desc := "(JJ)J", sig := { parameters := [.long, .long], returnType := some .long }, accessFlags := 9, code := some k4c1 }
/-- java/lang/Math -/
def k4 : Class := { plain "java/lang/Math" (some 0) with
  accessFlags := 49
  interfaces := #[]
  cf := some (fileOf pool4 1 #[.nestMembers #[98]] #[{ accessFlags := 2, nameIndex := 7, descriptorIndex := 8, attributes := #[] }, { accessFlags := 9, nameIndex := 198, descriptorIndex := 121, attributes := #[] }] 49 4 #[] #[{ accessFlags := 25, nameIndex := 354, descriptorIndex := 339, attributes := #[] }, { accessFlags := 25, nameIndex := 358, descriptorIndex := 339, attributes := #[] }, { accessFlags := 25, nameIndex := 361, descriptorIndex := 339, attributes := #[] }, { accessFlags := 26, nameIndex := 364, descriptorIndex := 339, attributes := #[] }, { accessFlags := 26, nameIndex := 365, descriptorIndex := 339, attributes := #[] }, { accessFlags := 26, nameIndex := 172, descriptorIndex := 173, attributes := #[] }, { accessFlags := 26, nameIndex := 176, descriptorIndex := 173, attributes := #[] }, { accessFlags := 8, nameIndex := 344, descriptorIndex := 339, attributes := #[] }, { accessFlags := 8, nameIndex := 338, descriptorIndex := 339, attributes := #[] }, { accessFlags := 4120, nameIndex := 245, descriptorIndex := 246, attributes := #[] }])
  fields := #[{ name := "E", type := .double, accessFlags := 25, slot := 0, constantValue := 0 }, { name := "PI", type := .double, accessFlags := 25, slot := 1, constantValue := 0 }, { name := "TAU", type := .double, accessFlags := 25, slot := 2, constantValue := 0 }, { name := "DEGREES_TO_RADIANS", type := .double, accessFlags := 26, slot := 3, constantValue := 0 }, { name := "RADIANS_TO_DEGREES", type := .double, accessFlags := 26, slot := 4, constantValue := 0 }, { name := "negativeZeroFloatBits", type := .long, accessFlags := 26, slot := 5, constantValue := 0 }, { name := "negativeZeroDoubleBits", type := .long, accessFlags := 26, slot := 6, constantValue := 0 }, { name := "twoToTheDoubleScaleUp", type := .double, accessFlags := 8, slot := 7, constantValue := 0 }, { name := "twoToTheDoubleScaleDown", type := .double, accessFlags := 8, slot := 8, constantValue := 0 }, { name := "$assertionsDisabled", type := .boolean, accessFlags := 4120, slot := 9, constantValue := 0 }]
  methods := #[k4m0, k4m1]
  instanceTypes := #[]
  staticTypes := #[.double, .double, .double, .double, .double, .long, .long, .double, .double, .boolean]
  resolved := Array.replicate 460 none
  statics := none }

def pool5 : Array CpInfo := pool [(1, u "java/lang/Cloneable"), (0, .class_ 1), (0, u "java/lang/Object"), (0, .class_ 3)] 3

/-- java/lang/Cloneable -/
def k5 : Class := { plain "java/lang/Cloneable" (some 0) with
  accessFlags := 1537
  interfaces := #[]
  cf := some (fileOf pool5 2 #[] #[] 1537 4 #[] #[])
  fields := #[]
  methods := #[]
  instanceTypes := #[]
  staticTypes := #[]
  resolved := Array.replicate 8 none
  statics := none }

def pool6 : Array CpInfo := pool [(1, u "java/io/Serializable"), (0, .class_ 1), (0, u "java/lang/Object"), (0, .class_ 3)] 3

/-- java/io/Serializable -/
def k6 : Class := { plain "java/io/Serializable" (some 0) with
  accessFlags := 1537
  interfaces := #[]
  cf := some (fileOf pool6 2 #[] #[] 1537 4 #[] #[])
  fields := #[]
  methods := #[]
  instanceTypes := #[]
  staticTypes := #[]
  resolved := Array.replicate 8 none
  statics := none }

/-- the primitive byte -/
def k7 : Class := { plain "byte" none with kind := .primitive 'B', accessFlags := 0x411 }
/-- [B -/
def k8 : Class := { plain "[B" (some 0) with kind := .array 7 .byte, interfaces := #[5, 6], accessFlags := 1041 }

/-- the primitive double -/
def k9 : Class := { plain "double" none with kind := .primitive 'D', accessFlags := 0x411 }
/-- [D -/
def k10 : Class := { plain "[D" (some 0) with kind := .array 9 .double, interfaces := #[5, 6], accessFlags := 1041 }

/-- the primitive int -/
def k11 : Class := { plain "int" none with kind := .primitive 'I', accessFlags := 0x411 }
/-- [I -/
def k12 : Class := { plain "[I" (some 0) with kind := .array 11 .int, interfaces := #[5, 6], accessFlags := 1041 }

/-- the primitive long -/
def k13 : Class := { plain "long" none with kind := .primitive 'J', accessFlags := 0x411 }
/-- [J -/
def k14 : Class := { plain "[J" (some 0) with kind := .array 13 .long, interfaces := #[5, 6], accessFlags := 1041 }

def heap : Heap := #[]
def classes : Array Class := #[k0, k1, k2, k3, k4, k5, k6, k7, k8, k9, k10, k11, k12, k13, k14]
def interned : List (Array UInt16 × Addr) := []
def slotsUsed : Nat := 0
def theMethod : MethodId := ⟨1, 1⟩
def args0 : Array Value := #[.int 3, .int 2, .int 3, .int 4, .int 5, .long 6]
def aboutOver (below : List Frame) : State where
  vm := { classes := classes, interned := interned.toArray }
  heap := heap
  slotsUsed := slotsUsed
  threads := #[{ frames := .invoking theMethod args0 :: below }]
def below0 : List Frame := [.native { method := ⟨0, 0⟩, args := #[] }]
def about1 : State := aboutOver below0
def p0 : Program := .bare "" "" ""
def e0 : Env := launch0.env 0 0 0
theorem w_frames : about1.frames = Frame.invoking theMethod args0 :: below0 := rfl
set_option maxRecDepth 65536 in
theorem w_args : argsFit about1.vm theMethod args0 = true := by decide +kernel
set_option maxRecDepth 65536 in
theorem w_heap : heapFits about1 = true := by decide +kernel
set_option maxRecDepth 65536 in
theorem w_runnable : about1.curStatus? = some .runnable := by decide +kernel
set_option maxRecDepth 65536 in
theorem w_alone : about1.alone = true := by decide +kernel
set_option maxRecDepth 65536 in
theorem w_named : about1.methodNamed? x = some theMethod := by decide +kernel
set_option maxRecDepth 65536 in
theorem w_hears : about1.hears theMethod below0 = true := by decide +kernel
set_option maxRecDepth 65536 in
theorem w_ripe : about1.ripe theMethod args0 below0 = true := by decide +kernel
theorem w_running : about1.status = .running := rfl
set_option maxRecDepth 65536 in
theorem w_room : about1.hasRoom e0.platform room_1 = true :=
  launch0.hasRoom_least _ room_1 (by decide +kernel) (by decide +kernel) (by decide +kernel) (by decide +kernel) (by decide +kernel) (by decide +kernel)
theorem allAtoms_all (ts : List Jvm.Cond) (a : Array Jvm.Value) (st : Jvm.State) : (allAtoms ts).before a st = ts.all (fun c => c.before a st) := by
  induction ts with
  | nil => rfl
  | cons c t ih =>
    show (Jvm.Cond.and c (allAtoms t)).before a st = _
    rw [Jvm.Cond.before_and, ih, List.all_cons]
def words1 : List Jvm.Cond := Jvm.Cond.code x code maxLocals ret :: tables_1
/-- a 'code' word, met by the world's own term for the bytes: nothing is compared byte by byte -/
theorem code_word {y : MethodName} {bytes : ByteArray} {mx : Nat} {rt : Option FieldType} {a : Array Value} {s : State} {m : MethodId} {meth : Method} {c : Code} (h1 : s.methodNamed? y = some m) (h2 : s.vm.method? m = some meth) (h3 : meth.code = some c) (h4 : c.code = bytes)
    (h5 : (c.maxLocals == mx && c.exceptionTable.isEmpty && decide (c.maxStack ≤ mostOperands) && decide (meth.sig.returnType = rt) && !meth.locks && decide (parseMethodDescriptor y.desc = some meth.sig)) = true) : (Jvm.Cond.code y bytes mx rt).before a s = true := by
  simp only [Bool.and_eq_true, beq_iff_eq, Bool.not_eq_true', decide_eq_true_eq] at h5
  obtain ⟨⟨⟨⟨⟨g1, g2⟩, g3⟩, g4⟩, g5⟩, g6⟩ := h5
  simp [Cond.before, Cond.holds, Cond.value, h1, h2, h3, h4, g1, g2, g3, g4, g5, g6]
def isCode : Jvm.Cond → Bool
  | .code _ _ _ _ => true
  | _ => false
theorem all_split {L : List Jvm.Cond} {P : Jvm.Cond → Bool} (h1 : L.all (fun c => isCode c || P c) = true) (h2 : ∀ c ∈ L.filter isCode, P c = true) : L.all P = true := by
  refine List.all_eq_true.mpr fun c hc => ?_
  have h := List.all_eq_true.mp h1 c hc
  rcases Bool.eq_false_or_eq_true (isCode c) with hi | hi
  · exact h2 c (List.mem_filter.mpr ⟨hc, hi⟩)
  · simpa [hi] using h
set_option maxRecDepth 65536 in
theorem w_c0 : (Jvm.Cond.code x code maxLocals ret).before args0 about1 = true := code_word (m := ⟨1, 1⟩) (meth := k1m1) (c := k1c1) (by decide +kernel) rfl rfl rfl (by decide +kernel)
set_option maxRecDepth 65536 in
theorem w_c1 : (Jvm.Cond.code ({ cls := "com/example/makespun/makespun/simulate/Timeline", name := "<init>", desc := "([D[D)V" } : Jvm.MethodName) prog_82_method_1_code (3 : Nat) (Option.none : Option Jvm.ClassFile.FieldType)).before args0 about1 = true := code_word (m := ⟨2, 0⟩) (meth := k2m0) (c := k2c0) (by decide +kernel) rfl rfl rfl (by decide +kernel)
set_option maxRecDepth 65536 in
theorem w_c2 : (Jvm.Cond.code ({ cls := "java/lang/Object", name := "<init>", desc := "()V" } : Jvm.MethodName) object_method_1_code (1 : Nat) (Option.none : Option Jvm.ClassFile.FieldType)).before args0 about1 = true := code_word (m := ⟨0, 0⟩) (meth := k0m0) (c := k0c0) (by decide +kernel) rfl rfl rfl (by decide +kernel)
set_option maxRecDepth 65536 in
theorem w_c3 : (Jvm.Cond.code ({ cls := "com/example/makespun/makespun/simulate/Timeline", name := "freeAt", desc := "()D" } : Jvm.MethodName) prog_82_method_4_code (1 : Nat) (Option.some Jvm.ClassFile.FieldType.double)).before args0 about1 = true := code_word (m := ⟨2, 1⟩) (meth := k2m1) (c := k2c1) (by decide +kernel) rfl rfl rfl (by decide +kernel)
set_option maxRecDepth 65536 in
theorem w_c4 : (Jvm.Cond.code ({ cls := "com/example/makespun/makespun/simulate/Timeline", name := "add", desc := "(II)V" } : Jvm.MethodName) prog_82_method_7_code (3 : Nat) (Option.none : Option Jvm.ClassFile.FieldType)).before args0 about1 = true := code_word (m := ⟨2, 2⟩) (meth := k2m2) (c := k2c2) (by decide +kernel) rfl rfl rfl (by decide +kernel)
set_option maxRecDepth 65536 in
theorem w_c5 : (Jvm.Cond.code ({ cls := "java/lang/Math", name := "max", desc := "(JJ)J" } : Jvm.MethodName) jdk_29_method_66_code (4 : Nat) (Option.some Jvm.ClassFile.FieldType.long)).before args0 about1 = true := code_word (m := ⟨4, 1⟩) (meth := k4m1) (c := k4c1) (by decide +kernel) rfl rfl rfl (by decide +kernel)
def codes1 : List Jvm.Cond := [Jvm.Cond.code x code maxLocals ret, Jvm.Cond.code ({ cls := "com/example/makespun/makespun/simulate/Timeline", name := "<init>", desc := "([D[D)V" } : Jvm.MethodName) prog_82_method_1_code (3 : Nat) (Option.none : Option Jvm.ClassFile.FieldType), Jvm.Cond.code ({ cls := "java/lang/Object", name := "<init>", desc := "()V" } : Jvm.MethodName) object_method_1_code (1 : Nat) (Option.none : Option Jvm.ClassFile.FieldType), Jvm.Cond.code ({ cls := "com/example/makespun/makespun/simulate/Timeline", name := "freeAt", desc := "()D" } : Jvm.MethodName) prog_82_method_4_code (1 : Nat) (Option.some Jvm.ClassFile.FieldType.double), Jvm.Cond.code ({ cls := "com/example/makespun/makespun/simulate/Timeline", name := "add", desc := "(II)V" } : Jvm.MethodName) prog_82_method_7_code (3 : Nat) (Option.none : Option Jvm.ClassFile.FieldType), Jvm.Cond.code ({ cls := "java/lang/Math", name := "max", desc := "(JJ)J" } : Jvm.MethodName) jdk_29_method_66_code (4 : Nat) (Option.some Jvm.ClassFile.FieldType.long)]
set_option maxRecDepth 65536 in
theorem codes_eq : words1.filter isCode = codes1 := rfl
theorem w_codes : ∀ c ∈ words1.filter isCode, c.before args0 about1 = true := by
  rw [codes_eq]
  intro c hc
  simp only [codes1, List.mem_cons, List.not_mem_nil, or_false] at hc
  rcases hc with rfl | rfl | rfl | rfl | rfl | rfl
  · exact w_c0
  · exact w_c1
  · exact w_c2
  · exact w_c3
  · exact w_c4
  · exact w_c5
set_option maxRecDepth 65536 in
theorem w_t1 : (words1.take 24).all (fun c => isCode c || c.before args0 about1) = true := by decide +kernel
set_option maxRecDepth 65536 in
theorem w_t2 : (words1.drop 24).all (fun c => isCode c || c.before args0 about1) = true := by decide +kernel
theorem w_tables : (allAtoms (Jvm.Cond.code x code maxLocals ret :: tables_1)).before args0 about1 = true := by
  rw [allAtoms_all]
  show words1.all (fun c => c.before args0 about1) = true
  refine all_split ?_ w_codes
  rw [← List.take_append_drop 24 words1, List.all_append, w_t1, w_t2]
  rfl
set_option maxRecDepth 65536 in
theorem w_case : (Jvm.Cond.and given_1 narrow_1).before args0 about1 = true := by decide +kernel
theorem w_applies : (headSpec (Jvm.Cond.code x code maxLocals ret :: tables_1) room_1).applies x e0.platform about1 = true :=
  (Spec.applies_iff w_frames).mpr ⟨w_running, w_runnable, w_alone, w_named, w_hears, w_ripe, w_room, w_tables⟩
theorem atStart : AtStart classFile x code maxLocals ret World_1 tables_1 room_1 Calls_1 rest_1 Pre_1 launch0 p0 e0 about1 theMethod args0 below0 :=
  ⟨lists_1, trivial, launch0.admits_env _ _ _, launch0.least_env, fairChoices_fair.cas, fairChoices_fair.clock, w_frames, w_args, w_heap, w_applies, trivial, trivial, w_case⟩
end start1
theorem witness_1 : WitnessClaimed_1 := ⟨start1.p0, start1.e0, start1.about1, start1.theMethod, start1.args0, start1.below0, start1.atStart⟩
end Jvm.Pilot.@@N@@
