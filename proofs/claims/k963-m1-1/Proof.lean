import JvmDerived
import JvmDerived.Pilot.@@N@@Statement
import JvmDerived.Pilot.@@N@@Code
set_option linter.unusedVariables false
set_option linter.unusedSimpArgs false
namespace Jvm.RoadKit
open Sem ClassFile Op Lib Jvm.Stand Jvm.Free Jvm.LawKit
section New
variable {p : Program} {l : Launch} {e : Env} {R : Room} {s : State} {m : MethodId} {args : Array Value} {below : List Frame} {meth : Method} {c : Code} {T : State} {locs : List Loc} {cells slots : Nat}
theorem retI (X : Stand p l e R s m args below meth c T locs cells slots) (hx : p.tables.exec = Jvm.exec) {pc : Nat} {Ls : Array Slot} {z : Int32} {rest : List Value} (hret : meth.sig.returnType = some .int) (hd : decode c.code pc = .ok (.ireturn, 1)) {fs : List Frame}
    (hl : ∀ (f : JFrame) (acts : List Action), f.method = m → f.locked = none → f.entered = [] → (doReturn e (T.setTop f) acts (some (.int z))).1 = T.setFrames fs) : Steps p.tables e below (T.setTop (mkF m pc Ls (.int z :: rest))) (T.setFrames fs) :=
  retOut X hx hret rfl (Or.inl ⟨rfl, Or.inl rfl, z, rfl⟩) hd hl
theorem own_cast {L L' : List Loc} {k k' n n' : Nat} (X : Stand p l e R s m args below meth c T L k n) (h1 : L = L') (h2 : k = k') (h3 : n = n') : Stand p l e R s m args below meth c T L' k' n' := by subst h1 h2 h3; exact X
end New
end Jvm.RoadKit
namespace Jvm.Pilot.@@N@@
open Jvm Jvm.ClassFile Sem Op Lib Jvm.Free Jvm.Stand Jvm.LawKit Jvm.RoadKit Bundle Jvm.Pilot.@@N@@.Jvm.D

def own_QI (r : Int32) (Z : State) (h0 : Heap) (n0 : Nat) (v : Option Value) (h : Heap) (L : List Loc) : Prop := v = some (.int r) ∧ Fr n0 L ∧ h = h0
def own_pick (fl bit s o : Int32) : Int32 := if (((fl.toUInt32 >>> (bit &&& 31).toUInt32).toInt32) &&& (1 : Int32)) = (0 : Int32) then o else s
def own_ne (x y : Int32) : Int32 := if x = y then (0 : Int32) else (1 : Int32)
def own_up (d x y : Int32) : Int32 := if x = y then d else d + (1 : Int32)
theorem own_up_ne (d x y : Int32) : own_up d x y = d + own_ne x y := by unfold own_up own_ne; split <;> simp
theorem own_ne_symm (x y : Int32) : own_ne x y = own_ne y x := by
  unfold own_ne
  by_cases h : x = y
  · rw [if_pos h, if_pos h.symm]
  · rw [if_neg h, if_neg (Ne.symm h)]
theorem own_ne_self (x : Int32) : own_ne x x = 0 := if_pos rfl
def own_dist (x0 x1 x2 y0 y1 y2 u0 u1 w0 w1 : Int32) : Int32 := own_up (own_up (own_up (own_up (own_ne x0 y0) x1 y1) x2 y2) u0 w0) u1 w1
theorem own_dist_sum (x0 x1 x2 y0 y1 y2 u0 u1 w0 w1 : Int32) : own_dist x0 x1 x2 y0 y1 y2 u0 u1 w0 w1 = own_ne x0 y0 + own_ne x1 y1 + own_ne x2 y2 + own_ne u0 w0 + own_ne u1 w1 := by unfold own_dist; simp only [own_up_ne]
theorem own_dist_symm (x0 x1 x2 y0 y1 y2 u0 u1 w0 w1 : Int32) : own_dist y0 y1 y2 x0 x1 x2 w0 w1 u0 u1 = own_ne x0 y0 + own_ne x1 y1 + own_ne x2 y2 + own_ne u0 w0 + own_ne u1 w1 := by rw [own_dist_sum, own_ne_symm y0, own_ne_symm y1, own_ne_symm y2, own_ne_symm w0, own_ne_symm w1]
theorem own_dist_self (x0 x1 x2 u0 u1 : Int32) : own_dist x0 x1 x2 x0 x1 x2 u0 u1 u0 u1 = 0 := by rw [own_dist_sum]; simp only [own_ne_self]; decide
def own_QP (Z : State) (p1 p2 p3 p4 : Int32) := own_QI (own_pick p1 p2 p3 p4) Z
def own_QN (Z : State) (p1 p2 : Int32) := own_QI (own_ne p1 p2) Z
theorem d1_0 : decode method_3_code 0 = .ok (.iload_n 0, 1) := by decide +kernel
theorem d1_1 : decode method_3_code 1 = .ok (.iload_n 1, 1) := by decide +kernel
theorem d1_2 : decode method_3_code 2 = .ok (.iushr, 1) := by decide +kernel
theorem d1_3 : decode method_3_code 3 = .ok (.iconst 1, 1) := by decide +kernel
theorem d1_4 : decode method_3_code 4 = .ok (.iand, 1) := by decide +kernel
theorem d1_5 : decode method_3_code 5 = .ok (.ifCond .eq 5, 3) := by decide +kernel
theorem d1_8 : decode method_3_code 8 = .ok (.iload_n 2, 1) := by decide +kernel
theorem d1_9 : decode method_3_code 9 = .ok (.ireturn, 1) := by decide +kernel
theorem d1_10 : decode method_3_code 10 = .ok (.iload_n 3, 1) := by decide +kernel
theorem d1_11 : decode method_3_code 11 = .ok (.ireturn, 1) := by decide +kernel
theorem pn_1 : plainName "com/example/makespun/makespun/planner/evolution/CandidateDistancePinLaw" = true := by first | (simp [plainName, overriddenIn]; done) | decide +kernel
theorem ef_1 (m : MethodId) (x0 : Int32) (x1 : Int32) (x2 : Int32) (x3 : Int32) : entryFrame m #[(.int x0), (.int x1), (.int x2), (.int x3)] 4 = mkF m 0 #[.val (.int x0), .val (.int x1), .val (.int x2), .val (.int x3)] [] := by first | (simp [entryFrame, mkF, argsToLocals, Value.category]; done) | rfl
set_option maxRecDepth 65536 in
set_option maxHeartbeats 40000000 in
theorem rmP (l : Launch) (Z : State) (a0 : Array Value) (hw : ∀ d ∈ tables_1, d.before a0 Z = true) (ws : List Jvm.Cond) (p1 p2 p3 p4 : Int32) (h0 : Heap) (n0 : Nat) (Z0 : n0 ≤ h0.size) :
    MetFree l (⟨"com/example/makespun/makespun/planner/evolution/CandidateDistancePinLaw", "pick", "(IIII)I"⟩ : MethodName) (head1 (Jvm.Cond.code (⟨"com/example/makespun/makespun/planner/evolution/CandidateDistancePinLaw", "pick", "(IIII)I"⟩ : MethodName) method_3_code 4 (some .int) :: ws) ({ frames := 0, cells := 0, slots := 0, locals := 0 } : Room)) (fun a U => a = #[(.int p1), (.int p2), (.int p3), (.int p4)] ∧ Z.Warmed39 U.vm ∧ U.heap = h0) (fun _ _ _ _ _ => True) (fun _ U o U' => ∃ v L, o = .returned v ∧ own_QP Z p1 p2 p3 p4 h0 n0 v U'.heap L ∧ FrameEnd U o U' L ({ frames := 0, cells := 0, slots := 0, locals := 0 } : Room).cells ({ frames := 0, cells := 0, slots := 0, locals := 0 } : Room).slots) := by
  refine MetFree.of_bodySF (plainFor_of_name pn_1) hisR ?_
  intro p e s m args below meth c s₁ Bd hml0 hP hK
  obtain ⟨rfl, hZ, hh⟩ := hP
  have hx := Bd.exec
  have hby := Bd.bytes
  have hml : c.maxLocals = 4 := hml0
  have hown : s.vm.findClass "com/example/makespun/makespun/planner/evolution/CandidateDistancePinLaw" = some m.cls := findClass_of_methodNamed Bd.named
  have hnm := (name_of_methodNamed Bd.named Bd.method).1
  have X0 : Stand p l e ({ frames := 0, cells := 0, slots := 0, locals := 0 } : Room) s m #[(.int p1), (.int p2), (.int p3), (.int p4)] below meth c s₁ [] 0 0 := Stand.of_body Bd
  have e0 : s₁.heap = h0 := by rw [← hh, Bd.state]; rfl
  have N0 := Fr.nil n0
  have pre0 : ∀ tq, Steps p.tables e below (s₁.setTop (mkF m 0 #[.val (.int p1), .val (.int p2), .val (.int p3), .val (.int p4)] [])) tq → Steps p.tables e below (s₁.setTop (entryFrame m #[(.int p1), (.int p2), (.int p3), (.int p4)] 4)) tq := fun tq k => castTop (ef_1 m p1 p2 p3 p4) k
  have k1 : ∀ tq, Steps p.tables e below (s₁.setTop (mkF m 5 #[.val (.int p1), .val (.int p2), .val (.int p3), .val (.int p4)] [(.int (((p1.toUInt32 >>> (p2 &&& 31).toUInt32).toInt32) &&& (1 : Int32)))])) tq → Steps p.tables e below (s₁.setTop (entryFrame m #[(.int p1), (.int p2), (.int p3), (.int p4)] 4)) tq := by
    intro tq kt
    refine pre0 tq ?_
    show Steps p.tables e below (s₁.setTop (mkF m 0 #[.val (.int p1), .val (.int p2), .val (.int p3), .val (.int p4)] [])) _
    refine XS.iloadN X0.here hx rfl (hb hby d1_0) rfl ?_
    show Steps p.tables e below (s₁.setTop (mkF m 1 #[.val (.int p1), .val (.int p2), .val (.int p3), .val (.int p4)] [(.int p1)])) _
    refine XS.iloadN X0.here hx rfl (hb hby d1_1) rfl ?_
    show Steps p.tables e below (s₁.setTop (mkF m 2 #[.val (.int p1), .val (.int p2), .val (.int p3), .val (.int p4)] [(.int p2), (.int p1)])) _
    refine XS.iushr X0.here hx rfl (hb hby d1_2) rfl ?_
    show Steps p.tables e below (s₁.setTop (mkF m 3 #[.val (.int p1), .val (.int p2), .val (.int p3), .val (.int p4)] [(.int ((p1.toUInt32 >>> (p2 &&& 31).toUInt32).toInt32))])) _
    refine XS.iconst X0.here hx rfl (hb hby d1_3) ?_
    show Steps p.tables e below (s₁.setTop (mkF m 4 #[.val (.int p1), .val (.int p2), .val (.int p3), .val (.int p4)] [(.int (1 : Int32)), (.int ((p1.toUInt32 >>> (p2 &&& 31).toUInt32).toInt32))])) _
    refine XS.iand X0.here hx rfl (hb hby d1_4) rfl ?_
    exact kt
  by_cases hc2 : (((p1.toUInt32 >>> (p2 &&& 31).toUInt32).toInt32) &&& (1 : Int32)) = (0 : Int32)
  · obtain ⟨fs, hr, hrun, hended, hW, hsame⟩ := X0.leave (v := some (.int p4)) (fun h => by rw [Bd.returns] at h; cases h)
    refine ⟨_, _, k1 _ ?_, hrun, hended, _, _, rfl, ?_, ⟨_, rfl⟩, hW, hsame.mono (by decide) (by decide)⟩
    · show Steps p.tables e below (s₁.setTop (mkF m 5 #[.val (.int p1), .val (.int p2), .val (.int p3), .val (.int p4)] [(.int (((p1.toUInt32 >>> (p2 &&& 31).toUInt32).toInt32) &&& (1 : Int32)))])) _
      refine XS.ifYes X0.here hx rfl (pc0 := 5) (pc' := 10) rfl (hb hby d1_5) rfl ((if0 _ _).trans (teq hc2).1) (by decide) (by decide) ?_
      show Steps p.tables e below (s₁.setTop (mkF m 10 #[.val (.int p1), .val (.int p2), .val (.int p3), .val (.int p4)] [])) _
      refine XS.iloadN X0.here hx rfl (hb hby d1_10) rfl ?_
      show Steps p.tables e below (s₁.setTop (mkF m 11 #[.val (.int p1), .val (.int p2), .val (.int p3), .val (.int p4)] [(.int p4)])) _
      exact retI X0 hx Bd.returns (hb hby d1_11) hr
    · show own_QP Z p1 p2 p3 p4 h0 n0 _ s₁.heap _
      rw [e0]
      exact ⟨congrArg (fun z => some (Value.int z)) (show p4 = own_pick p1 p2 p3 p4 from by unfold own_pick; rw [if_pos hc2]), N0, rfl⟩
  · obtain ⟨fs, hr, hrun, hended, hW, hsame⟩ := X0.leave (v := some (.int p3)) (fun h => by rw [Bd.returns] at h; cases h)
    refine ⟨_, _, k1 _ ?_, hrun, hended, _, _, rfl, ?_, ⟨_, rfl⟩, hW, hsame.mono (by decide) (by decide)⟩
    · show Steps p.tables e below (s₁.setTop (mkF m 5 #[.val (.int p1), .val (.int p2), .val (.int p3), .val (.int p4)] [(.int (((p1.toUInt32 >>> (p2 &&& 31).toUInt32).toInt32) &&& (1 : Int32)))])) _
      refine XS.ifNo X0.here hx rfl (hb hby d1_5) rfl ((if0 _ _).trans (feq hc2).1) ?_
      show Steps p.tables e below (s₁.setTop (mkF m 8 #[.val (.int p1), .val (.int p2), .val (.int p3), .val (.int p4)] [])) _
      refine XS.iloadN X0.here hx rfl (hb hby d1_8) rfl ?_
      show Steps p.tables e below (s₁.setTop (mkF m 9 #[.val (.int p1), .val (.int p2), .val (.int p3), .val (.int p4)] [(.int p3)])) _
      exact retI X0 hx Bd.returns (hb hby d1_9) hr
    · show own_QP Z p1 p2 p3 p4 h0 n0 _ s₁.heap _
      rw [e0]
      exact ⟨congrArg (fun z => some (Value.int z)) (show p3 = own_pick p1 p2 p3 p4 from by unfold own_pick; rw [if_neg hc2]), N0, rfl⟩
theorem d4_0 : decode method_2_code 0 = .ok (.iload_n 0, 1) := by decide +kernel
theorem d4_1 : decode method_2_code 1 = .ok (.iload_n 1, 1) := by decide +kernel
theorem d4_2 : decode method_2_code 2 = .ok (.if_icmp .eq 5, 3) := by decide +kernel
theorem d4_5 : decode method_2_code 5 = .ok (.iconst 1, 1) := by decide +kernel
theorem d4_6 : decode method_2_code 6 = .ok (.ireturn, 1) := by decide +kernel
theorem d4_7 : decode method_2_code 7 = .ok (.iconst 0, 1) := by decide +kernel
theorem d4_8 : decode method_2_code 8 = .ok (.ireturn, 1) := by decide +kernel
theorem pn_4 : plainName "com/example/makespun/makespun/planner/evolution/CandidateDistancePinLaw" = true := by first | (simp [plainName, overriddenIn]; done) | decide +kernel
theorem ef_4 (m : MethodId) (x0 : Int32) (x1 : Int32) : entryFrame m #[(.int x0), (.int x1)] 2 = mkF m 0 #[.val (.int x0), .val (.int x1)] [] := by first | (simp [entryFrame, mkF, argsToLocals, Value.category]; done) | rfl
set_option maxRecDepth 65536 in
set_option maxHeartbeats 40000000 in
theorem rmN (l : Launch) (Z : State) (a0 : Array Value) (hw : ∀ d ∈ tables_1, d.before a0 Z = true) (ws : List Jvm.Cond) (p1 p2 : Int32) (h0 : Heap) (n0 : Nat) (Z0 : n0 ≤ h0.size) :
    MetFree l (⟨"com/example/makespun/makespun/planner/evolution/CandidateDistancePinLaw", "ne", "(II)I"⟩ : MethodName) (head1 (Jvm.Cond.code (⟨"com/example/makespun/makespun/planner/evolution/CandidateDistancePinLaw", "ne", "(II)I"⟩ : MethodName) method_2_code 2 (some .int) :: ws) ({ frames := 0, cells := 0, slots := 0, locals := 0 } : Room)) (fun a U => a = #[(.int p1), (.int p2)] ∧ Z.Warmed39 U.vm ∧ U.heap = h0) (fun _ _ _ _ _ => True) (fun _ U o U' => ∃ v L, o = .returned v ∧ own_QN Z p1 p2 h0 n0 v U'.heap L ∧ FrameEnd U o U' L ({ frames := 0, cells := 0, slots := 0, locals := 0 } : Room).cells ({ frames := 0, cells := 0, slots := 0, locals := 0 } : Room).slots) := by
  refine MetFree.of_bodySF (plainFor_of_name pn_4) hisR ?_
  intro p e s m args below meth c s₁ Bd hml0 hP hK
  obtain ⟨rfl, hZ, hh⟩ := hP
  have hx := Bd.exec
  have hby := Bd.bytes
  have hml : c.maxLocals = 2 := hml0
  have hown : s.vm.findClass "com/example/makespun/makespun/planner/evolution/CandidateDistancePinLaw" = some m.cls := findClass_of_methodNamed Bd.named
  have hnm := (name_of_methodNamed Bd.named Bd.method).1
  have X0 : Stand p l e ({ frames := 0, cells := 0, slots := 0, locals := 0 } : Room) s m #[(.int p1), (.int p2)] below meth c s₁ [] 0 0 := Stand.of_body Bd
  have e0 : s₁.heap = h0 := by rw [← hh, Bd.state]; rfl
  have N0 := Fr.nil n0
  have pre0 : ∀ tq, Steps p.tables e below (s₁.setTop (mkF m 0 #[.val (.int p1), .val (.int p2)] [])) tq → Steps p.tables e below (s₁.setTop (entryFrame m #[(.int p1), (.int p2)] 2)) tq := fun tq k => castTop (ef_4 m p1 p2) k
  have k1 : ∀ tq, Steps p.tables e below (s₁.setTop (mkF m 2 #[.val (.int p1), .val (.int p2)] [(.int p2), (.int p1)])) tq → Steps p.tables e below (s₁.setTop (entryFrame m #[(.int p1), (.int p2)] 2)) tq := by
    intro tq kt
    refine pre0 tq ?_
    show Steps p.tables e below (s₁.setTop (mkF m 0 #[.val (.int p1), .val (.int p2)] [])) _
    refine XS.iloadN X0.here hx rfl (hb hby d4_0) rfl ?_
    show Steps p.tables e below (s₁.setTop (mkF m 1 #[.val (.int p1), .val (.int p2)] [(.int p1)])) _
    refine XS.iloadN X0.here hx rfl (hb hby d4_1) rfl ?_
    exact kt
  by_cases hc2 : p1 = p2
  · obtain ⟨fs, hr, hrun, hended, hW, hsame⟩ := X0.leave (v := some (.int (0 : Int32))) (fun h => by rw [Bd.returns] at h; cases h)
    refine ⟨_, _, k1 _ ?_, hrun, hended, _, _, rfl, ?_, ⟨_, rfl⟩, hW, hsame.mono (by decide) (by decide)⟩
    · show Steps p.tables e below (s₁.setTop (mkF m 2 #[.val (.int p1), .val (.int p2)] [(.int p2), (.int p1)])) _
      refine XS.icmpYes X0.here hx rfl (pc0 := 2) (pc' := 7) rfl (hb hby d4_2) rfl (teq hc2).1 (by decide) (by decide) ?_
      show Steps p.tables e below (s₁.setTop (mkF m 7 #[.val (.int p1), .val (.int p2)] [])) _
      refine XS.iconst X0.here hx rfl (hb hby d4_7) ?_
      show Steps p.tables e below (s₁.setTop (mkF m 8 #[.val (.int p1), .val (.int p2)] [(.int (0 : Int32))])) _
      exact retI X0 hx Bd.returns (hb hby d4_8) hr
    · show own_QN Z p1 p2 h0 n0 _ s₁.heap _
      rw [e0]
      exact ⟨congrArg (fun z => some (Value.int z)) (show (0 : Int32) = own_ne p1 p2 from by unfold own_ne; rw [if_pos hc2]), N0, rfl⟩
  · obtain ⟨fs, hr, hrun, hended, hW, hsame⟩ := X0.leave (v := some (.int (1 : Int32))) (fun h => by rw [Bd.returns] at h; cases h)
    refine ⟨_, _, k1 _ ?_, hrun, hended, _, _, rfl, ?_, ⟨_, rfl⟩, hW, hsame.mono (by decide) (by decide)⟩
    · show Steps p.tables e below (s₁.setTop (mkF m 2 #[.val (.int p1), .val (.int p2)] [(.int p2), (.int p1)])) _
      refine XS.icmpNo X0.here hx rfl (hb hby d4_2) rfl (feq hc2).1 ?_
      show Steps p.tables e below (s₁.setTop (mkF m 5 #[.val (.int p1), .val (.int p2)] [])) _
      refine XS.iconst X0.here hx rfl (hb hby d4_5) ?_
      show Steps p.tables e below (s₁.setTop (mkF m 6 #[.val (.int p1), .val (.int p2)] [(.int (1 : Int32))])) _
      exact retI X0 hx Bd.returns (hb hby d4_6) hr
    · show own_QN Z p1 p2 h0 n0 _ s₁.heap _
      rw [e0]
      exact ⟨congrArg (fun z => some (Value.int z)) (show (1 : Int32) = own_ne p1 p2 from by unfold own_ne; rw [if_neg hc2]), N0, rfl⟩
def own_QC (Z : State) (a1 a2 a3 : Addr) (p4 : Int32) (h0 : Heap) (n0 : Nat) (v : Option Value) (h : Heap) (L : List Loc) : Prop := v = none ∧ Fr n0 L ∧ Keep h0 h [a1] ∧ Exa Z h a1 "com/example/makespun/makespun/planner/evolution/Candidate" ∧ Fld Z h a1 "com/example/makespun/makespun/planner/evolution/Candidate" "allocation" "[I" (.ref a2) ∧ Fld Z h a1 "com/example/makespun/makespun/planner/evolution/Candidate" "order" "[I" (.ref a3)
theorem d2_0 : decode prog_32_method_1_code 0 = .ok (.aload_n 0, 1) := by decide +kernel
theorem d2_1 : decode prog_32_method_1_code 1 = .ok (.invokespecial 1, 3) := by decide +kernel
theorem d2_4 : decode prog_32_method_1_code 4 = .ok (.aload_n 0, 1) := by decide +kernel
theorem d2_5 : decode prog_32_method_1_code 5 = .ok (.ldc2_w 9, 3) := by decide +kernel
theorem d2_8 : decode prog_32_method_1_code 8 = .ok (.putfield 11, 3) := by decide +kernel
theorem d2_11 : decode prog_32_method_1_code 11 = .ok (.aload_n 0, 1) := by decide +kernel
theorem d2_12 : decode prog_32_method_1_code 12 = .ok (.aload_n 1, 1) := by decide +kernel
theorem d2_13 : decode prog_32_method_1_code 13 = .ok (.putfield 17, 3) := by decide +kernel
theorem d2_16 : decode prog_32_method_1_code 16 = .ok (.aload_n 0, 1) := by decide +kernel
theorem d2_17 : decode prog_32_method_1_code 17 = .ok (.aload_n 2, 1) := by decide +kernel
theorem d2_18 : decode prog_32_method_1_code 18 = .ok (.putfield 21, 3) := by decide +kernel
theorem d2_21 : decode prog_32_method_1_code 21 = .ok (.aload_n 0, 1) := by decide +kernel
theorem d2_22 : decode prog_32_method_1_code 22 = .ok (.iload_n 3, 1) := by decide +kernel
theorem d2_23 : decode prog_32_method_1_code 23 = .ok (.putfield 24, 3) := by decide +kernel
theorem d2_26 : decode prog_32_method_1_code 26 = .ok (.return_, 1) := by decide +kernel
theorem pn_2 : plainName "com/example/makespun/makespun/planner/evolution/Candidate" = true := by first | (simp [plainName, overriddenIn]; done) | decide +kernel
theorem ef_2 (m : MethodId) (x0 : Addr) (x1 : Addr) (x2 : Addr) (x3 : Int32) : entryFrame m #[(.ref x0), (.ref x1), (.ref x2), (.int x3)] 4 = mkF m 0 #[.val (.ref x0), .val (.ref x1), .val (.ref x2), .val (.int x3)] [] := by first | (simp [entryFrame, mkF, argsToLocals, Value.category]; done) | rfl
set_option maxRecDepth 65536 in
set_option maxHeartbeats 40000000 in
theorem rmC (l : Launch) (Z : State) (a0 : Array Value) (hw : ∀ d ∈ tables_1, d.before a0 Z = true) (ws : List Jvm.Cond) (a1 a2 a3 : Addr) (p4 : Int32) (h0 : Heap) (n0 : Nat) (Z0 : n0 ≤ h0.size) (E_a1 : Exa Z h0 a1 "com/example/makespun/makespun/planner/evolution/Candidate") (F_fitness : Fld Z h0 a1 "com/example/makespun/makespun/planner/evolution/Candidate" "fitness" "D" (.double (0 : UInt64))) (F_allocation : Fld Z h0 a1 "com/example/makespun/makespun/planner/evolution/Candidate" "allocation" "[I" .null) (F_order : Fld Z h0 a1 "com/example/makespun/makespun/planner/evolution/Candidate" "order" "[I" .null) (F_fits : Fld Z h0 a1 "com/example/makespun/makespun/planner/evolution/Candidate" "fits" "Z" (.int (0 : Int32))) (g_a1 : n0 ≤ a1) :
    MetFree l (⟨"com/example/makespun/makespun/planner/evolution/Candidate", "<init>", "([I[IZ)V"⟩ : MethodName) (head1 (Jvm.Cond.code (⟨"com/example/makespun/makespun/planner/evolution/Candidate", "<init>", "([I[IZ)V"⟩ : MethodName) prog_32_method_1_code 4 none :: ws) ({ frames := 1, cells := 0, slots := 0, locals := 12 } : Room)) (fun a U => a = #[(.ref a1), (.ref a2), (.ref a3), (.int p4)] ∧ Z.Warmed39 U.vm ∧ U.heap = h0) (fun _ _ _ _ _ => True) (fun _ U o U' => ∃ v L, o = .returned v ∧ own_QC Z a1 a2 a3 p4 h0 n0 v U'.heap L ∧ FrameEnd U o U' L ({ frames := 1, cells := 0, slots := 0, locals := 12 } : Room).cells ({ frames := 1, cells := 0, slots := 0, locals := 12 } : Room).slots) := by
  refine MetFree.of_bodySF (plainFor_of_name pn_2) hisR ?_
  intro p e s m args below meth c s₁ Bd hml0 hP hK
  obtain ⟨rfl, hZ, hh⟩ := hP
  have hx := Bd.exec
  have hby := Bd.bytes
  have hml : c.maxLocals = 4 := hml0
  have hown : s.vm.findClass "com/example/makespun/makespun/planner/evolution/Candidate" = some m.cls := findClass_of_methodNamed Bd.named
  have hnm := (name_of_methodNamed Bd.named Bd.method).1
  have X0 : Stand p l e ({ frames := 1, cells := 0, slots := 0, locals := 12 } : Room) s m #[(.ref a1), (.ref a2), (.ref a3), (.int p4)] below meth c s₁ [] 0 0 := Stand.of_body Bd
  have e0 : s₁.heap = h0 := by rw [← hh, Bd.state]; rfl
  have N0 := Fr.nil n0
  have pre0 : ∀ tq, Steps p.tables e below (s₁.setTop (mkF m 0 #[.val (.ref a1), .val (.ref a2), .val (.ref a3), .val (.int p4)] [])) tq → Steps p.tables e below (s₁.setTop (entryFrame m #[(.ref a1), (.ref a2), (.ref a3), (.int p4)] 4)) tq := fun tq k => castTop (ef_2 m a1 a2 a3 p4) k
  obtain ⟨T1, X1, e1, st1⟩ := initO X0 hx hZ hown (hw _ (List.mem_of_getElem? (i := 11) rfl)) (hw _ (List.mem_of_getElem? (i := 12) rfl)) (hw _ (List.mem_of_getElem? (i := 13) rfl)) e0 (g := (mkF m 1 #[.val (.ref a1), .val (.ref a2), .val (.ref a3), .val (.int p4)] [(.ref a1)])) rfl (by rw [hml]; rfl) rfl (hb hby d2_1) (by decide) (W := 0) (by show 2 * 0 + _ ≤ _; exact Nat.le_of_eq rfl) (by decide)
  obtain ⟨T2, h2, X2, e2, W2, st2⟩ := putF X1 hx hZ hown (host := "") (Or.inl (hw _ (List.mem_of_getElem? (i := 15) rfl))) Via.refl e1 F_fitness E_a1 (Or.inl (hw _ (List.mem_of_getElem? (i := 16) rfl))) (hw _ (List.mem_of_getElem? (i := 6) rfl)) (ty := .double) (by decide) rfl rfl (g := (mkF m 8 #[.val (.ref a1), .val (.ref a2), .val (.ref a3), .val (.int p4)] [(.double (9221120237041090560 : UInt64)), (.ref a1)])) rfl rfl (hb hby d2_8)
  have f3 := E_a1.wr W2
  have f4 := F_fitness.same W2
  have f5 := F_allocation.other W2 (Or.inr (slot_ne (Or.inr (hw _ (List.mem_of_getElem? (i := 18) rfl))) (Or.inl (hw _ (List.mem_of_getElem? (i := 16) rfl))) (by decide) (t := (.array .int)) (t' := .double) (by decide) (by decide)))
  have f6 := F_order.other W2 (Or.inr (slot_ne (Or.inr (hw _ (List.mem_of_getElem? (i := 20) rfl))) (Or.inl (hw _ (List.mem_of_getElem? (i := 16) rfl))) (by decide) (t := (.array .int)) (t' := .double) (by decide) (by decide)))
  have f7 := F_fits.other W2 (Or.inr (slot_ne (Or.inr (hw _ (List.mem_of_getElem? (i := 22) rfl))) (Or.inl (hw _ (List.mem_of_getElem? (i := 16) rfl))) (by decide) (t := .boolean) (t' := .double) (by decide) (by decide)))
  have kp8 := (Keep.refl h0 [a1]).wr W2 (Or.inl (List.mem_of_getElem? (i := 0) rfl))
  have z9 := Nat.le_trans Z0 (Keep.of_wr W2).1
  have N10 := Fr.snoc X2 N0 g_a1
  obtain ⟨T11, h11, X11, e11, W11, st11⟩ := putF X2 hx hZ hown (host := "") (Or.inl (hw _ (List.mem_of_getElem? (i := 17) rfl))) Via.refl e2 f5 f3 (Or.inr ⟨(hw _ (List.mem_of_getElem? (i := 18) rfl)), rfl, hnm⟩) (hw _ (List.mem_of_getElem? (i := 6) rfl)) (ty := (.array .int)) (by decide) rfl rfl (g := (mkF m 13 #[.val (.ref a1), .val (.ref a2), .val (.ref a3), .val (.int p4)] [(.ref a2), (.ref a1)])) rfl rfl (hb hby d2_13)
  have f12 := f3.wr W11
  have f13 := f4.other W11 (Or.inr (slot_ne (Or.inl (hw _ (List.mem_of_getElem? (i := 16) rfl))) (Or.inr (hw _ (List.mem_of_getElem? (i := 18) rfl))) (by decide) (t := .double) (t' := (.array .int)) (by decide) (by decide)))
  have f14 := f5.same W11
  have f15 := f6.other W11 (Or.inr (slot_ne (Or.inr (hw _ (List.mem_of_getElem? (i := 20) rfl))) (Or.inr (hw _ (List.mem_of_getElem? (i := 18) rfl))) (by decide) (t := (.array .int)) (t' := (.array .int)) (by decide) (by decide)))
  have f16 := f7.other W11 (Or.inr (slot_ne (Or.inr (hw _ (List.mem_of_getElem? (i := 22) rfl))) (Or.inr (hw _ (List.mem_of_getElem? (i := 18) rfl))) (by decide) (t := .boolean) (t' := (.array .int)) (by decide) (by decide)))
  have kp17 := kp8.wr W11 (Or.inl (List.mem_of_getElem? (i := 0) rfl))
  have z18 := Nat.le_trans z9 (Keep.of_wr W11).1
  have N19 := Fr.snoc X11 N10 g_a1
  obtain ⟨T20, h20, X20, e20, W20, st20⟩ := putF X11 hx hZ hown (host := "") (Or.inl (hw _ (List.mem_of_getElem? (i := 19) rfl))) Via.refl e11 f15 f12 (Or.inr ⟨(hw _ (List.mem_of_getElem? (i := 20) rfl)), rfl, hnm⟩) (hw _ (List.mem_of_getElem? (i := 6) rfl)) (ty := (.array .int)) (by decide) rfl rfl (g := (mkF m 18 #[.val (.ref a1), .val (.ref a2), .val (.ref a3), .val (.int p4)] [(.ref a3), (.ref a1)])) rfl rfl (hb hby d2_18)
  have f21 := f12.wr W20
  have f22 := f13.other W20 (Or.inr (slot_ne (Or.inl (hw _ (List.mem_of_getElem? (i := 16) rfl))) (Or.inr (hw _ (List.mem_of_getElem? (i := 20) rfl))) (by decide) (t := .double) (t' := (.array .int)) (by decide) (by decide)))
  have f23 := f14.other W20 (Or.inr (slot_ne (Or.inr (hw _ (List.mem_of_getElem? (i := 18) rfl))) (Or.inr (hw _ (List.mem_of_getElem? (i := 20) rfl))) (by decide) (t := (.array .int)) (t' := (.array .int)) (by decide) (by decide)))
  have f24 := f15.same W20
  have f25 := f16.other W20 (Or.inr (slot_ne (Or.inr (hw _ (List.mem_of_getElem? (i := 22) rfl))) (Or.inr (hw _ (List.mem_of_getElem? (i := 20) rfl))) (by decide) (t := .boolean) (t' := (.array .int)) (by decide) (by decide)))
  have kp26 := kp17.wr W20 (Or.inl (List.mem_of_getElem? (i := 0) rfl))
  have z27 := Nat.le_trans z18 (Keep.of_wr W20).1
  have N28 := Fr.snoc X20 N19 g_a1
  obtain ⟨T29, h29, X29, e29, W29, st29⟩ := putFN X20 hx hZ hown (hw _ (List.mem_of_getElem? (i := 21) rfl)) Via.refl e20 f25 f21 (Or.inr ⟨(hw _ (List.mem_of_getElem? (i := 22) rfl)), rfl, hnm⟩) (hw _ (List.mem_of_getElem? (i := 6) rfl)) (ty := .boolean) (v' := .int (p4 &&& 1)) (by decide) rfl (fits_nar_bool _) (g := (mkF m 23 #[.val (.ref a1), .val (.ref a2), .val (.ref a3), .val (.int p4)] [(.int p4), (.ref a1)])) rfl rfl (hb hby d2_23)
  have f30 := f21.wr W29
  have f31 := f22.other W29 (Or.inr (slot_ne (Or.inl (hw _ (List.mem_of_getElem? (i := 16) rfl))) (Or.inr (hw _ (List.mem_of_getElem? (i := 22) rfl))) (by decide) (t := .double) (t' := .boolean) (by decide) (by decide)))
  have f32 := f23.other W29 (Or.inr (slot_ne (Or.inr (hw _ (List.mem_of_getElem? (i := 18) rfl))) (Or.inr (hw _ (List.mem_of_getElem? (i := 22) rfl))) (by decide) (t := (.array .int)) (t' := .boolean) (by decide) (by decide)))
  have f33 := f24.other W29 (Or.inr (slot_ne (Or.inr (hw _ (List.mem_of_getElem? (i := 20) rfl))) (Or.inr (hw _ (List.mem_of_getElem? (i := 22) rfl))) (by decide) (t := (.array .int)) (t' := .boolean) (by decide) (by decide)))
  have f34 := f25.same W29
  have kp35 := kp26.wr W29 (Or.inl (List.mem_of_getElem? (i := 0) rfl))
  have z36 := Nat.le_trans z27 (Keep.of_wr W29).1
  have N37 := Fr.snoc X29 N28 g_a1
  obtain ⟨fs, hr, hrun, hended, hW, hsame⟩ := X29.leave (v := none) (fun _ => rfl)
  refine ⟨_, _, pre0 _ ?_, hrun, hended, _, _, rfl, ?_, ⟨_, rfl⟩, hW, hsame.mono (by decide) (by decide)⟩
  · show Steps p.tables e below (s₁.setTop (mkF m 0 #[.val (.ref a1), .val (.ref a2), .val (.ref a3), .val (.int p4)] [])) _
    refine XS.aloadN X0.here hx rfl (hb hby d2_0) rfl rfl ?_
    show Steps p.tables e below (s₁.setTop (mkF m 1 #[.val (.ref a1), .val (.ref a2), .val (.ref a3), .val (.int p4)] [(.ref a1)])) _
    refine st1 _ ?_
    show Steps p.tables e below (T1.setTop (mkF m 4 #[.val (.ref a1), .val (.ref a2), .val (.ref a3), .val (.int p4)] [])) _
    refine XS.aloadN X1.here hx rfl (hb hby d2_4) rfl rfl ?_
    show Steps p.tables e below (T1.setTop (mkF m 5 #[.val (.ref a1), .val (.ref a2), .val (.ref a3), .val (.int p4)] [(.ref a1)])) _
    refine X1.ldc2DoubleC hx hown (mvT hZ (hw _ (List.mem_of_getElem? (i := 14) rfl))) (g := (mkF m 5 #[.val (.ref a1), .val (.ref a2), .val (.ref a3), .val (.int p4)] [(.ref a1)])) rfl (hb hby d2_5) _ ?_
    show Steps p.tables e below (T1.setTop (mkF m 8 #[.val (.ref a1), .val (.ref a2), .val (.ref a3), .val (.int p4)] [(.double (9221120237041090560 : UInt64)), (.ref a1)])) _
    refine st2 _ ?_
    show Steps p.tables e below (T2.setTop (mkF m 11 #[.val (.ref a1), .val (.ref a2), .val (.ref a3), .val (.int p4)] [])) _
    refine XS.aloadN X2.here hx rfl (hb hby d2_11) rfl rfl ?_
    show Steps p.tables e below (T2.setTop (mkF m 12 #[.val (.ref a1), .val (.ref a2), .val (.ref a3), .val (.int p4)] [(.ref a1)])) _
    refine XS.aloadN X2.here hx rfl (hb hby d2_12) rfl rfl ?_
    show Steps p.tables e below (T2.setTop (mkF m 13 #[.val (.ref a1), .val (.ref a2), .val (.ref a3), .val (.int p4)] [(.ref a2), (.ref a1)])) _
    refine st11 _ ?_
    show Steps p.tables e below (T11.setTop (mkF m 16 #[.val (.ref a1), .val (.ref a2), .val (.ref a3), .val (.int p4)] [])) _
    refine XS.aloadN X11.here hx rfl (hb hby d2_16) rfl rfl ?_
    show Steps p.tables e below (T11.setTop (mkF m 17 #[.val (.ref a1), .val (.ref a2), .val (.ref a3), .val (.int p4)] [(.ref a1)])) _
    refine XS.aloadN X11.here hx rfl (hb hby d2_17) rfl rfl ?_
    show Steps p.tables e below (T11.setTop (mkF m 18 #[.val (.ref a1), .val (.ref a2), .val (.ref a3), .val (.int p4)] [(.ref a3), (.ref a1)])) _
    refine st20 _ ?_
    show Steps p.tables e below (T20.setTop (mkF m 21 #[.val (.ref a1), .val (.ref a2), .val (.ref a3), .val (.int p4)] [])) _
    refine XS.aloadN X20.here hx rfl (hb hby d2_21) rfl rfl ?_
    show Steps p.tables e below (T20.setTop (mkF m 22 #[.val (.ref a1), .val (.ref a2), .val (.ref a3), .val (.int p4)] [(.ref a1)])) _
    refine XS.iloadN X20.here hx rfl (hb hby d2_22) rfl ?_
    show Steps p.tables e below (T20.setTop (mkF m 23 #[.val (.ref a1), .val (.ref a2), .val (.ref a3), .val (.int p4)] [(.int p4), (.ref a1)])) _
    refine st29 _ ?_
    show Steps p.tables e below (T29.setTop (mkF m 26 #[.val (.ref a1), .val (.ref a2), .val (.ref a3), .val (.int p4)] [])) _
    exact X29.returnOut hx Bd.returns (hb hby d2_26) hr
  · show own_QC Z a1 a2 a3 p4 h0 n0 _ T29.heap _
    rw [e29]
    exact ⟨rfl, N37, kp35, f30, f32, f33⟩
def own_QD (Z : State) (a1 a2 : Addr) (x0 x1 x2 y0 y1 y2 u0 u1 w0 w1 : Int32) := own_QI (own_dist x0 x1 x2 y0 y1 y2 u0 u1 w0 w1) Z
theorem d5_0 : decode prog_32_method_8_code 0 = .ok (.iconst 0, 1) := by decide +kernel
theorem d5_1 : decode prog_32_method_8_code 1 = .ok (.istore_n 2, 1) := by decide +kernel
theorem d5_2 : decode prog_32_method_8_code 2 = .ok (.iconst 0, 1) := by decide +kernel
theorem d5_3 : decode prog_32_method_8_code 3 = .ok (.istore_n 3, 1) := by decide +kernel
theorem d5_4 : decode prog_32_method_8_code 4 = .ok (.iload_n 3, 1) := by decide +kernel
theorem d5_5 : decode prog_32_method_8_code 5 = .ok (.aload_n 0, 1) := by decide +kernel
theorem d5_6 : decode prog_32_method_8_code 6 = .ok (.getfield 17, 3) := by decide +kernel
theorem d5_9 : decode prog_32_method_8_code 9 = .ok (.arraylength, 1) := by decide +kernel
theorem d5_10 : decode prog_32_method_8_code 10 = .ok (.if_icmp .ge 27, 3) := by decide +kernel
theorem d5_13 : decode prog_32_method_8_code 13 = .ok (.aload_n 0, 1) := by decide +kernel
theorem d5_14 : decode prog_32_method_8_code 14 = .ok (.getfield 17, 3) := by decide +kernel
theorem d5_17 : decode prog_32_method_8_code 17 = .ok (.iload_n 3, 1) := by decide +kernel
theorem d5_18 : decode prog_32_method_8_code 18 = .ok (.iaload, 1) := by decide +kernel
theorem d5_19 : decode prog_32_method_8_code 19 = .ok (.aload_n 1, 1) := by decide +kernel
theorem d5_20 : decode prog_32_method_8_code 20 = .ok (.getfield 17, 3) := by decide +kernel
theorem d5_23 : decode prog_32_method_8_code 23 = .ok (.iload_n 3, 1) := by decide +kernel
theorem d5_24 : decode prog_32_method_8_code 24 = .ok (.iaload, 1) := by decide +kernel
theorem d5_25 : decode prog_32_method_8_code 25 = .ok (.if_icmp .eq 6, 3) := by decide +kernel
theorem d5_28 : decode prog_32_method_8_code 28 = .ok (.iinc 2 1, 3) := by decide +kernel
theorem d5_31 : decode prog_32_method_8_code 31 = .ok (.iinc 3 1, 3) := by decide +kernel
theorem d5_34 : decode prog_32_method_8_code 34 = .ok (.goto (-30), 3) := by decide +kernel
theorem d5_37 : decode prog_32_method_8_code 37 = .ok (.iconst 0, 1) := by decide +kernel
theorem d5_38 : decode prog_32_method_8_code 38 = .ok (.istore_n 3, 1) := by decide +kernel
theorem d5_39 : decode prog_32_method_8_code 39 = .ok (.iload_n 3, 1) := by decide +kernel
theorem d5_40 : decode prog_32_method_8_code 40 = .ok (.aload_n 0, 1) := by decide +kernel
theorem d5_41 : decode prog_32_method_8_code 41 = .ok (.getfield 21, 3) := by decide +kernel
theorem d5_44 : decode prog_32_method_8_code 44 = .ok (.arraylength, 1) := by decide +kernel
theorem d5_45 : decode prog_32_method_8_code 45 = .ok (.if_icmp .ge 27, 3) := by decide +kernel
theorem d5_48 : decode prog_32_method_8_code 48 = .ok (.aload_n 0, 1) := by decide +kernel
theorem d5_49 : decode prog_32_method_8_code 49 = .ok (.getfield 21, 3) := by decide +kernel
theorem d5_52 : decode prog_32_method_8_code 52 = .ok (.iload_n 3, 1) := by decide +kernel
theorem d5_53 : decode prog_32_method_8_code 53 = .ok (.iaload, 1) := by decide +kernel
theorem d5_54 : decode prog_32_method_8_code 54 = .ok (.aload_n 1, 1) := by decide +kernel
theorem d5_55 : decode prog_32_method_8_code 55 = .ok (.getfield 21, 3) := by decide +kernel
theorem d5_58 : decode prog_32_method_8_code 58 = .ok (.iload_n 3, 1) := by decide +kernel
theorem d5_59 : decode prog_32_method_8_code 59 = .ok (.iaload, 1) := by decide +kernel
theorem d5_60 : decode prog_32_method_8_code 60 = .ok (.if_icmp .eq 6, 3) := by decide +kernel
theorem d5_63 : decode prog_32_method_8_code 63 = .ok (.iinc 2 1, 3) := by decide +kernel
theorem d5_66 : decode prog_32_method_8_code 66 = .ok (.iinc 3 1, 3) := by decide +kernel
theorem d5_69 : decode prog_32_method_8_code 69 = .ok (.goto (-30), 3) := by decide +kernel
theorem d5_72 : decode prog_32_method_8_code 72 = .ok (.iload_n 2, 1) := by decide +kernel
theorem d5_73 : decode prog_32_method_8_code 73 = .ok (.ireturn, 1) := by decide +kernel
theorem pn_5 : plainName "com/example/makespun/makespun/planner/evolution/Candidate" = true := by first | (simp [plainName, overriddenIn]; done) | decide +kernel
theorem ef_5 (m : MethodId) (x0 : Addr) (x1 : Addr) : entryFrame m #[(.ref x0), (.ref x1)] 4 = mkF m 0 #[.val (.ref x0), .val (.ref x1), .unset, .unset] [] := by first | (simp [entryFrame, mkF, argsToLocals, Value.category]; done) | rfl
set_option maxRecDepth 65536 in
set_option maxHeartbeats 40000000 in
theorem rmD (l : Launch) (Z : State) (a0 : Array Value) (hw : ∀ d ∈ tables_1, d.before a0 Z = true) (ws : List Jvm.Cond) (a1 a2 b1 b2 b3 b4 : Addr) (kc1 kc2 kc3 kc4 : ClassId) (x0 x1 x2 y0 y1 y2 u0 u1 w0 w1 : Int32) (h0 : Heap) (n0 : Nat) (Z0 : n0 ≤ h0.size) (F1 : Fld Z h0 a1 "com/example/makespun/makespun/planner/evolution/Candidate" "allocation" "[I" (.ref b1)) (F2 : Fld Z h0 a1 "com/example/makespun/makespun/planner/evolution/Candidate" "order" "[I" (.ref b2)) (F3 : Fld Z h0 a2 "com/example/makespun/makespun/planner/evolution/Candidate" "allocation" "[I" (.ref b3)) (F4 : Fld Z h0 a2 "com/example/makespun/makespun/planner/evolution/Candidate" "order" "[I" (.ref b4)) (V1 : Arv Z h0 b1 kc1 .int (3 : Int32) [(.int x0), (.int x1), (.int x2)] (.int (0 : Int32))) (V2 : Arv Z h0 b2 kc2 .int (2 : Int32) [(.int u0), (.int u1)] (.int (0 : Int32))) (V3 : Arv Z h0 b3 kc3 .int (3 : Int32) [(.int y0), (.int y1), (.int y2)] (.int (0 : Int32))) (V4 : Arv Z h0 b4 kc4 .int (2 : Int32) [(.int w0), (.int w1)] (.int (0 : Int32))) :
    MetFree l (⟨"com/example/makespun/makespun/planner/evolution/Candidate", "distance", "(Lcom/example/makespun/makespun/planner/evolution/Candidate;)I"⟩ : MethodName) (head1 (Jvm.Cond.code (⟨"com/example/makespun/makespun/planner/evolution/Candidate", "distance", "(Lcom/example/makespun/makespun/planner/evolution/Candidate;)I"⟩ : MethodName) prog_32_method_8_code 4 (some .int) :: ws) ({ frames := 0, cells := 0, slots := 0, locals := 0 } : Room)) (fun a U => a = #[(.ref a1), (.ref a2)] ∧ Z.Warmed39 U.vm ∧ U.heap = h0) (fun _ _ _ _ _ => True) (fun _ U o U' => ∃ v L, o = .returned v ∧ own_QD Z a1 a2 x0 x1 x2 y0 y1 y2 u0 u1 w0 w1 h0 n0 v U'.heap L ∧ FrameEnd U o U' L ({ frames := 0, cells := 0, slots := 0, locals := 0 } : Room).cells ({ frames := 0, cells := 0, slots := 0, locals := 0 } : Room).slots) := by
  refine MetFree.of_bodySF (plainFor_of_name pn_5) hisR ?_
  intro p e s m args below meth c s₁ Bd hml0 hP hK
  obtain ⟨rfl, hZ, hh⟩ := hP
  have hx := Bd.exec
  have hby := Bd.bytes
  have hml : c.maxLocals = 4 := hml0
  have hown : s.vm.findClass "com/example/makespun/makespun/planner/evolution/Candidate" = some m.cls := findClass_of_methodNamed Bd.named
  have hnm := (name_of_methodNamed Bd.named Bd.method).1
  have X0 : Stand p l e ({ frames := 0, cells := 0, slots := 0, locals := 0 } : Room) s m #[(.ref a1), (.ref a2)] below meth c s₁ [] 0 0 := Stand.of_body Bd
  have e0 : s₁.heap = h0 := by rw [← hh, Bd.state]; rfl
  have N0 := Fr.nil n0
  have pre0 : ∀ tq, Steps p.tables e below (s₁.setTop (mkF m 0 #[.val (.ref a1), .val (.ref a2), .unset, .unset] [])) tq → Steps p.tables e below (s₁.setTop (entryFrame m #[(.ref a1), (.ref a2)] 4)) tq := fun tq k => castTop (ef_5 m a1 a2) k
  obtain ⟨T1, X1, e1, st1⟩ := getF X0 hx hZ hown (host := "") (Or.inl (hw _ (List.mem_of_getElem? (i := 17) rfl))) Via.refl e0 F1 (g := (mkF m 6 #[.val (.ref a1), .val (.ref a2), .val (.int (0 : Int32)), .val (.int (0 : Int32))] [(.ref a1), (.int (0 : Int32))])) rfl rfl (hb hby d5_6)
  obtain ⟨clq2, Arq2, cq2, Sq2, nq2, Hq2, Gq2⟩ := id V1
  obtain ⟨T3, X3, e3, st3⟩ := getF X1 hx hZ hown (host := "") (Or.inl (hw _ (List.mem_of_getElem? (i := 17) rfl))) Via.refl e1 F1 (g := (mkF m 14 #[.val (.ref a1), .val (.ref a2), .val (.int (0 : Int32)), .val (.int (0 : Int32))] [(.ref a1)])) rfl rfl (hb hby d5_14)
  obtain ⟨clq4, Arq4, cq4, Sq4, nq4, Hq4, Gq4⟩ := id V1
  have hiq4 : ¬ ((0 : Int32) < 0 ∨ clq4.slots.size ≤ ((0 : Int32)).toNatClampNeg) := inb_of Sq4 ⟨by decide, by decide⟩
  have haq4 : clq4.slots[((0 : Int32)).toNatClampNeg]? = some (.int x0) := Hq4.at hiq4 rfl
  obtain ⟨T5, X5, e5, st5⟩ := getF X3 hx hZ hown (host := "") (Or.inl (hw _ (List.mem_of_getElem? (i := 17) rfl))) Via.refl e3 F3 (g := (mkF m 20 #[.val (.ref a1), .val (.ref a2), .val (.int (0 : Int32)), .val (.int (0 : Int32))] [(.ref a2), (.int x0)])) rfl rfl (hb hby d5_20)
  obtain ⟨clq6, Arq6, cq6, Sq6, nq6, Hq6, Gq6⟩ := id V3
  have hiq6 : ¬ ((0 : Int32) < 0 ∨ clq6.slots.size ≤ ((0 : Int32)).toNatClampNeg) := inb_of Sq6 ⟨by decide, by decide⟩
  have haq6 : clq6.slots[((0 : Int32)).toNatClampNeg]? = some (.int y0) := Hq6.at hiq6 rfl
  have k7 : ∀ tq, Steps p.tables e below (T5.setTop (mkF m 25 #[.val (.ref a1), .val (.ref a2), .val (.int (0 : Int32)), .val (.int (0 : Int32))] [(.int y0), (.int x0)])) tq → Steps p.tables e below (s₁.setTop (entryFrame m #[(.ref a1), (.ref a2)] 4)) tq := by
    intro tq kt
    refine pre0 tq ?_
    show Steps p.tables e below (s₁.setTop (mkF m 0 #[.val (.ref a1), .val (.ref a2), .unset, .unset] [])) _
    refine XS.iconst X0.here hx rfl (hb hby d5_0) ?_
    show Steps p.tables e below (s₁.setTop (mkF m 1 #[.val (.ref a1), .val (.ref a2), .unset, .unset] [(.int (0 : Int32))])) _
    refine XS.istoreN X0.here hx rfl (hb hby d5_1) rfl (l' := #[.val (.ref a1), .val (.ref a2), .val (.int (0 : Int32)), .unset]) rfl ?_
    show Steps p.tables e below (s₁.setTop (mkF m 2 #[.val (.ref a1), .val (.ref a2), .val (.int (0 : Int32)), .unset] [])) _
    refine XS.iconst X0.here hx rfl (hb hby d5_2) ?_
    show Steps p.tables e below (s₁.setTop (mkF m 3 #[.val (.ref a1), .val (.ref a2), .val (.int (0 : Int32)), .unset] [(.int (0 : Int32))])) _
    refine XS.istoreN X0.here hx rfl (hb hby d5_3) rfl (l' := #[.val (.ref a1), .val (.ref a2), .val (.int (0 : Int32)), .val (.int (0 : Int32))]) rfl ?_
    show Steps p.tables e below (s₁.setTop (mkF m 4 #[.val (.ref a1), .val (.ref a2), .val (.int (0 : Int32)), .val (.int (0 : Int32))] [])) _
    refine XS.iloadN X0.here hx rfl (hb hby d5_4) rfl ?_
    show Steps p.tables e below (s₁.setTop (mkF m 5 #[.val (.ref a1), .val (.ref a2), .val (.int (0 : Int32)), .val (.int (0 : Int32))] [(.int (0 : Int32))])) _
    refine XS.aloadN X0.here hx rfl (hb hby d5_5) rfl rfl ?_
    show Steps p.tables e below (s₁.setTop (mkF m 6 #[.val (.ref a1), .val (.ref a2), .val (.int (0 : Int32)), .val (.int (0 : Int32))] [(.ref a1), (.int (0 : Int32))])) _
    refine st1 _ ?_
    show Steps p.tables e below (T1.setTop (mkF m 9 #[.val (.ref a1), .val (.ref a2), .val (.int (0 : Int32)), .val (.int (0 : Int32))] [(.ref b1), (.int (0 : Int32))])) _
    refine X1.arraylength hx (by rw [e1]; exact Arq2.1) (State.isArrayOf_alike hZ.alike Arq2.2.1) (g := (mkF m 9 #[.val (.ref a1), .val (.ref a2), .val (.int (0 : Int32)), .val (.int (0 : Int32))] [(.ref b1), (.int (0 : Int32))])) rfl rfl (hb hby d5_9) _ ?_
    rw [len_of Sq2 nq2]
    show Steps p.tables e below (T1.setTop (mkF m 10 #[.val (.ref a1), .val (.ref a2), .val (.int (0 : Int32)), .val (.int (0 : Int32))] [(.int (3 : Int32)), (.int (0 : Int32))])) _
    refine XS.icmpNo X1.here hx rfl (hb hby d5_10) rfl (tlt (by decide : ((0 : Int32) < (3 : Int32)))).2.1 ?_
    show Steps p.tables e below (T1.setTop (mkF m 13 #[.val (.ref a1), .val (.ref a2), .val (.int (0 : Int32)), .val (.int (0 : Int32))] [])) _
    refine XS.aloadN X1.here hx rfl (hb hby d5_13) rfl rfl ?_
    show Steps p.tables e below (T1.setTop (mkF m 14 #[.val (.ref a1), .val (.ref a2), .val (.int (0 : Int32)), .val (.int (0 : Int32))] [(.ref a1)])) _
    refine st3 _ ?_
    show Steps p.tables e below (T3.setTop (mkF m 17 #[.val (.ref a1), .val (.ref a2), .val (.int (0 : Int32)), .val (.int (0 : Int32))] [(.ref b1)])) _
    refine XS.iloadN X3.here hx rfl (hb hby d5_17) rfl ?_
    show Steps p.tables e below (T3.setTop (mkF m 18 #[.val (.ref a1), .val (.ref a2), .val (.int (0 : Int32)), .val (.int (0 : Int32))] [(.int (0 : Int32)), (.ref b1)])) _
    refine X3.iaload hx (j := (0 : Int32)) (v := (.int x0)) (by rw [e3]; exact Arq4.1) (State.isArrayOf_alike hZ.alike Arq4.2.1) Arq4.2.2 hiq4 haq4 (g := (mkF m 18 #[.val (.ref a1), .val (.ref a2), .val (.int (0 : Int32)), .val (.int (0 : Int32))] [(.int (0 : Int32)), (.ref b1)])) rfl rfl (hb hby d5_18) _ ?_
    show Steps p.tables e below (T3.setTop (mkF m 19 #[.val (.ref a1), .val (.ref a2), .val (.int (0 : Int32)), .val (.int (0 : Int32))] [(.int x0)])) _
    refine XS.aloadN X3.here hx rfl (hb hby d5_19) rfl rfl ?_
    show Steps p.tables e below (T3.setTop (mkF m 20 #[.val (.ref a1), .val (.ref a2), .val (.int (0 : Int32)), .val (.int (0 : Int32))] [(.ref a2), (.int x0)])) _
    refine st5 _ ?_
    show Steps p.tables e below (T5.setTop (mkF m 23 #[.val (.ref a1), .val (.ref a2), .val (.int (0 : Int32)), .val (.int (0 : Int32))] [(.ref b3), (.int x0)])) _
    refine XS.iloadN X5.here hx rfl (hb hby d5_23) rfl ?_
    show Steps p.tables e below (T5.setTop (mkF m 24 #[.val (.ref a1), .val (.ref a2), .val (.int (0 : Int32)), .val (.int (0 : Int32))] [(.int (0 : Int32)), (.ref b3), (.int x0)])) _
    refine X5.iaload hx (j := (0 : Int32)) (v := (.int y0)) (by rw [e5]; exact Arq6.1) (State.isArrayOf_alike hZ.alike Arq6.2.1) Arq6.2.2 hiq6 haq6 (g := (mkF m 24 #[.val (.ref a1), .val (.ref a2), .val (.int (0 : Int32)), .val (.int (0 : Int32))] [(.int (0 : Int32)), (.ref b3), (.int x0)])) rfl rfl (hb hby d5_24) _ ?_
    exact kt
  obtain ⟨v9, hv9⟩ : ∃ z : Int32, z = if x0 = y0 then (0 : Int32) else (1 : Int32) := ⟨_, rfl⟩
  have k10 : ∀ tq, Steps p.tables e below (T5.setTop (mkF m 31 #[.val (.ref a1), .val (.ref a2), .val (.int v9), .val (.int (0 : Int32))] [])) tq → Steps p.tables e below (s₁.setTop (entryFrame m #[(.ref a1), (.ref a2)] 4)) tq := by
    intro tq kt
    by_cases hc8 : x0 = y0
    · rw [if_pos hc8] at hv9
      rw [hv9] at kt
      refine k7 tq ?_
      show Steps p.tables e below (T5.setTop (mkF m 25 #[.val (.ref a1), .val (.ref a2), .val (.int (0 : Int32)), .val (.int (0 : Int32))] [(.int y0), (.int x0)])) _
      refine XS.icmpYes X5.here hx rfl (pc0 := 25) (pc' := 31) rfl (hb hby d5_25) rfl (teq hc8).1 (by decide) (by decide) ?_
      exact kt
    · rw [if_neg hc8] at hv9
      rw [hv9] at kt
      refine k7 tq ?_
      show Steps p.tables e below (T5.setTop (mkF m 25 #[.val (.ref a1), .val (.ref a2), .val (.int (0 : Int32)), .val (.int (0 : Int32))] [(.int y0), (.int x0)])) _
      refine XS.icmpNo X5.here hx rfl (hb hby d5_25) rfl (feq hc8).1 ?_
      show Steps p.tables e below (T5.setTop (mkF m 28 #[.val (.ref a1), .val (.ref a2), .val (.int (0 : Int32)), .val (.int (0 : Int32))] [])) _
      refine XS.iinc X5.here hx rfl (hb hby d5_28) rfl (l' := #[.val (.ref a1), .val (.ref a2), .val (.int (1 : Int32)), .val (.int (0 : Int32))]) rfl ?_
      exact kt
  obtain ⟨T11, X11, e11, st11⟩ := getF X5 hx hZ hown (host := "") (Or.inl (hw _ (List.mem_of_getElem? (i := 17) rfl))) Via.refl e5 F1 (g := (mkF m 6 #[.val (.ref a1), .val (.ref a2), .val (.int v9), .val (.int (1 : Int32))] [(.ref a1), (.int (1 : Int32))])) rfl rfl (hb hby d5_6)
  obtain ⟨clq12, Arq12, cq12, Sq12, nq12, Hq12, Gq12⟩ := id V1
  obtain ⟨T13, X13, e13, st13⟩ := getF X11 hx hZ hown (host := "") (Or.inl (hw _ (List.mem_of_getElem? (i := 17) rfl))) Via.refl e11 F1 (g := (mkF m 14 #[.val (.ref a1), .val (.ref a2), .val (.int v9), .val (.int (1 : Int32))] [(.ref a1)])) rfl rfl (hb hby d5_14)
  obtain ⟨clq14, Arq14, cq14, Sq14, nq14, Hq14, Gq14⟩ := id V1
  have hiq14 : ¬ ((1 : Int32) < 0 ∨ clq14.slots.size ≤ ((1 : Int32)).toNatClampNeg) := inb_of Sq14 ⟨by decide, by decide⟩
  have haq14 : clq14.slots[((1 : Int32)).toNatClampNeg]? = some (.int x1) := Hq14.at hiq14 rfl
  obtain ⟨T15, X15, e15, st15⟩ := getF X13 hx hZ hown (host := "") (Or.inl (hw _ (List.mem_of_getElem? (i := 17) rfl))) Via.refl e13 F3 (g := (mkF m 20 #[.val (.ref a1), .val (.ref a2), .val (.int v9), .val (.int (1 : Int32))] [(.ref a2), (.int x1)])) rfl rfl (hb hby d5_20)
  obtain ⟨clq16, Arq16, cq16, Sq16, nq16, Hq16, Gq16⟩ := id V3
  have hiq16 : ¬ ((1 : Int32) < 0 ∨ clq16.slots.size ≤ ((1 : Int32)).toNatClampNeg) := inb_of Sq16 ⟨by decide, by decide⟩
  have haq16 : clq16.slots[((1 : Int32)).toNatClampNeg]? = some (.int y1) := Hq16.at hiq16 rfl
  have k17 : ∀ tq, Steps p.tables e below (T15.setTop (mkF m 25 #[.val (.ref a1), .val (.ref a2), .val (.int v9), .val (.int (1 : Int32))] [(.int y1), (.int x1)])) tq → Steps p.tables e below (s₁.setTop (entryFrame m #[(.ref a1), (.ref a2)] 4)) tq := by
    intro tq kt
    refine k10 tq ?_
    show Steps p.tables e below (T5.setTop (mkF m 31 #[.val (.ref a1), .val (.ref a2), .val (.int v9), .val (.int (0 : Int32))] [])) _
    refine XS.iinc X5.here hx rfl (hb hby d5_31) rfl (l' := #[.val (.ref a1), .val (.ref a2), .val (.int v9), .val (.int (1 : Int32))]) rfl ?_
    show Steps p.tables e below (T5.setTop (mkF m 34 #[.val (.ref a1), .val (.ref a2), .val (.int v9), .val (.int (1 : Int32))] [])) _
    refine XS.goto X5.here hx rfl (pc0 := 34) (pc' := 4) rfl (hb hby d5_34) (by decide) (by decide) ?_
    show Steps p.tables e below (T5.setTop (mkF m 4 #[.val (.ref a1), .val (.ref a2), .val (.int v9), .val (.int (1 : Int32))] [])) _
    refine XS.iloadN X5.here hx rfl (hb hby d5_4) rfl ?_
    show Steps p.tables e below (T5.setTop (mkF m 5 #[.val (.ref a1), .val (.ref a2), .val (.int v9), .val (.int (1 : Int32))] [(.int (1 : Int32))])) _
    refine XS.aloadN X5.here hx rfl (hb hby d5_5) rfl rfl ?_
    show Steps p.tables e below (T5.setTop (mkF m 6 #[.val (.ref a1), .val (.ref a2), .val (.int v9), .val (.int (1 : Int32))] [(.ref a1), (.int (1 : Int32))])) _
    refine st11 _ ?_
    show Steps p.tables e below (T11.setTop (mkF m 9 #[.val (.ref a1), .val (.ref a2), .val (.int v9), .val (.int (1 : Int32))] [(.ref b1), (.int (1 : Int32))])) _
    refine X11.arraylength hx (by rw [e11]; exact Arq12.1) (State.isArrayOf_alike hZ.alike Arq12.2.1) (g := (mkF m 9 #[.val (.ref a1), .val (.ref a2), .val (.int v9), .val (.int (1 : Int32))] [(.ref b1), (.int (1 : Int32))])) rfl rfl (hb hby d5_9) _ ?_
    rw [len_of Sq12 nq12]
    show Steps p.tables e below (T11.setTop (mkF m 10 #[.val (.ref a1), .val (.ref a2), .val (.int v9), .val (.int (1 : Int32))] [(.int (3 : Int32)), (.int (1 : Int32))])) _
    refine XS.icmpNo X11.here hx rfl (hb hby d5_10) rfl (tlt (by decide : ((1 : Int32) < (3 : Int32)))).2.1 ?_
    show Steps p.tables e below (T11.setTop (mkF m 13 #[.val (.ref a1), .val (.ref a2), .val (.int v9), .val (.int (1 : Int32))] [])) _
    refine XS.aloadN X11.here hx rfl (hb hby d5_13) rfl rfl ?_
    show Steps p.tables e below (T11.setTop (mkF m 14 #[.val (.ref a1), .val (.ref a2), .val (.int v9), .val (.int (1 : Int32))] [(.ref a1)])) _
    refine st13 _ ?_
    show Steps p.tables e below (T13.setTop (mkF m 17 #[.val (.ref a1), .val (.ref a2), .val (.int v9), .val (.int (1 : Int32))] [(.ref b1)])) _
    refine XS.iloadN X13.here hx rfl (hb hby d5_17) rfl ?_
    show Steps p.tables e below (T13.setTop (mkF m 18 #[.val (.ref a1), .val (.ref a2), .val (.int v9), .val (.int (1 : Int32))] [(.int (1 : Int32)), (.ref b1)])) _
    refine X13.iaload hx (j := (1 : Int32)) (v := (.int x1)) (by rw [e13]; exact Arq14.1) (State.isArrayOf_alike hZ.alike Arq14.2.1) Arq14.2.2 hiq14 haq14 (g := (mkF m 18 #[.val (.ref a1), .val (.ref a2), .val (.int v9), .val (.int (1 : Int32))] [(.int (1 : Int32)), (.ref b1)])) rfl rfl (hb hby d5_18) _ ?_
    show Steps p.tables e below (T13.setTop (mkF m 19 #[.val (.ref a1), .val (.ref a2), .val (.int v9), .val (.int (1 : Int32))] [(.int x1)])) _
    refine XS.aloadN X13.here hx rfl (hb hby d5_19) rfl rfl ?_
    show Steps p.tables e below (T13.setTop (mkF m 20 #[.val (.ref a1), .val (.ref a2), .val (.int v9), .val (.int (1 : Int32))] [(.ref a2), (.int x1)])) _
    refine st15 _ ?_
    show Steps p.tables e below (T15.setTop (mkF m 23 #[.val (.ref a1), .val (.ref a2), .val (.int v9), .val (.int (1 : Int32))] [(.ref b3), (.int x1)])) _
    refine XS.iloadN X15.here hx rfl (hb hby d5_23) rfl ?_
    show Steps p.tables e below (T15.setTop (mkF m 24 #[.val (.ref a1), .val (.ref a2), .val (.int v9), .val (.int (1 : Int32))] [(.int (1 : Int32)), (.ref b3), (.int x1)])) _
    refine X15.iaload hx (j := (1 : Int32)) (v := (.int y1)) (by rw [e15]; exact Arq16.1) (State.isArrayOf_alike hZ.alike Arq16.2.1) Arq16.2.2 hiq16 haq16 (g := (mkF m 24 #[.val (.ref a1), .val (.ref a2), .val (.int v9), .val (.int (1 : Int32))] [(.int (1 : Int32)), (.ref b3), (.int x1)])) rfl rfl (hb hby d5_24) _ ?_
    exact kt
  obtain ⟨v19, hv19⟩ : ∃ z : Int32, z = if x1 = y1 then v9 else (v9 + (1 : Int32)) := ⟨_, rfl⟩
  have k20 : ∀ tq, Steps p.tables e below (T15.setTop (mkF m 31 #[.val (.ref a1), .val (.ref a2), .val (.int v19), .val (.int (1 : Int32))] [])) tq → Steps p.tables e below (s₁.setTop (entryFrame m #[(.ref a1), (.ref a2)] 4)) tq := by
    intro tq kt
    by_cases hc18 : x1 = y1
    · rw [if_pos hc18] at hv19
      rw [hv19] at kt
      refine k17 tq ?_
      show Steps p.tables e below (T15.setTop (mkF m 25 #[.val (.ref a1), .val (.ref a2), .val (.int v9), .val (.int (1 : Int32))] [(.int y1), (.int x1)])) _
      refine XS.icmpYes X15.here hx rfl (pc0 := 25) (pc' := 31) rfl (hb hby d5_25) rfl (teq hc18).1 (by decide) (by decide) ?_
      exact kt
    · rw [if_neg hc18] at hv19
      rw [hv19] at kt
      refine k17 tq ?_
      show Steps p.tables e below (T15.setTop (mkF m 25 #[.val (.ref a1), .val (.ref a2), .val (.int v9), .val (.int (1 : Int32))] [(.int y1), (.int x1)])) _
      refine XS.icmpNo X15.here hx rfl (hb hby d5_25) rfl (feq hc18).1 ?_
      show Steps p.tables e below (T15.setTop (mkF m 28 #[.val (.ref a1), .val (.ref a2), .val (.int v9), .val (.int (1 : Int32))] [])) _
      refine XS.iinc X15.here hx rfl (hb hby d5_28) rfl (l' := #[.val (.ref a1), .val (.ref a2), .val (.int (v9 + (1 : Int32))), .val (.int (1 : Int32))]) rfl ?_
      exact kt
  obtain ⟨T21, X21, e21, st21⟩ := getF X15 hx hZ hown (host := "") (Or.inl (hw _ (List.mem_of_getElem? (i := 17) rfl))) Via.refl e15 F1 (g := (mkF m 6 #[.val (.ref a1), .val (.ref a2), .val (.int v19), .val (.int (2 : Int32))] [(.ref a1), (.int (2 : Int32))])) rfl rfl (hb hby d5_6)
  obtain ⟨clq22, Arq22, cq22, Sq22, nq22, Hq22, Gq22⟩ := id V1
  obtain ⟨T23, X23, e23, st23⟩ := getF X21 hx hZ hown (host := "") (Or.inl (hw _ (List.mem_of_getElem? (i := 17) rfl))) Via.refl e21 F1 (g := (mkF m 14 #[.val (.ref a1), .val (.ref a2), .val (.int v19), .val (.int (2 : Int32))] [(.ref a1)])) rfl rfl (hb hby d5_14)
  obtain ⟨clq24, Arq24, cq24, Sq24, nq24, Hq24, Gq24⟩ := id V1
  have hiq24 : ¬ ((2 : Int32) < 0 ∨ clq24.slots.size ≤ ((2 : Int32)).toNatClampNeg) := inb_of Sq24 ⟨by decide, by decide⟩
  have haq24 : clq24.slots[((2 : Int32)).toNatClampNeg]? = some (.int x2) := Hq24.at hiq24 rfl
  obtain ⟨T25, X25, e25, st25⟩ := getF X23 hx hZ hown (host := "") (Or.inl (hw _ (List.mem_of_getElem? (i := 17) rfl))) Via.refl e23 F3 (g := (mkF m 20 #[.val (.ref a1), .val (.ref a2), .val (.int v19), .val (.int (2 : Int32))] [(.ref a2), (.int x2)])) rfl rfl (hb hby d5_20)
  obtain ⟨clq26, Arq26, cq26, Sq26, nq26, Hq26, Gq26⟩ := id V3
  have hiq26 : ¬ ((2 : Int32) < 0 ∨ clq26.slots.size ≤ ((2 : Int32)).toNatClampNeg) := inb_of Sq26 ⟨by decide, by decide⟩
  have haq26 : clq26.slots[((2 : Int32)).toNatClampNeg]? = some (.int y2) := Hq26.at hiq26 rfl
  have k27 : ∀ tq, Steps p.tables e below (T25.setTop (mkF m 25 #[.val (.ref a1), .val (.ref a2), .val (.int v19), .val (.int (2 : Int32))] [(.int y2), (.int x2)])) tq → Steps p.tables e below (s₁.setTop (entryFrame m #[(.ref a1), (.ref a2)] 4)) tq := by
    intro tq kt
    refine k20 tq ?_
    show Steps p.tables e below (T15.setTop (mkF m 31 #[.val (.ref a1), .val (.ref a2), .val (.int v19), .val (.int (1 : Int32))] [])) _
    refine XS.iinc X15.here hx rfl (hb hby d5_31) rfl (l' := #[.val (.ref a1), .val (.ref a2), .val (.int v19), .val (.int (2 : Int32))]) rfl ?_
    show Steps p.tables e below (T15.setTop (mkF m 34 #[.val (.ref a1), .val (.ref a2), .val (.int v19), .val (.int (2 : Int32))] [])) _
    refine XS.goto X15.here hx rfl (pc0 := 34) (pc' := 4) rfl (hb hby d5_34) (by decide) (by decide) ?_
    show Steps p.tables e below (T15.setTop (mkF m 4 #[.val (.ref a1), .val (.ref a2), .val (.int v19), .val (.int (2 : Int32))] [])) _
    refine XS.iloadN X15.here hx rfl (hb hby d5_4) rfl ?_
    show Steps p.tables e below (T15.setTop (mkF m 5 #[.val (.ref a1), .val (.ref a2), .val (.int v19), .val (.int (2 : Int32))] [(.int (2 : Int32))])) _
    refine XS.aloadN X15.here hx rfl (hb hby d5_5) rfl rfl ?_
    show Steps p.tables e below (T15.setTop (mkF m 6 #[.val (.ref a1), .val (.ref a2), .val (.int v19), .val (.int (2 : Int32))] [(.ref a1), (.int (2 : Int32))])) _
    refine st21 _ ?_
    show Steps p.tables e below (T21.setTop (mkF m 9 #[.val (.ref a1), .val (.ref a2), .val (.int v19), .val (.int (2 : Int32))] [(.ref b1), (.int (2 : Int32))])) _
    refine X21.arraylength hx (by rw [e21]; exact Arq22.1) (State.isArrayOf_alike hZ.alike Arq22.2.1) (g := (mkF m 9 #[.val (.ref a1), .val (.ref a2), .val (.int v19), .val (.int (2 : Int32))] [(.ref b1), (.int (2 : Int32))])) rfl rfl (hb hby d5_9) _ ?_
    rw [len_of Sq22 nq22]
    show Steps p.tables e below (T21.setTop (mkF m 10 #[.val (.ref a1), .val (.ref a2), .val (.int v19), .val (.int (2 : Int32))] [(.int (3 : Int32)), (.int (2 : Int32))])) _
    refine XS.icmpNo X21.here hx rfl (hb hby d5_10) rfl (tlt (by decide : ((2 : Int32) < (3 : Int32)))).2.1 ?_
    show Steps p.tables e below (T21.setTop (mkF m 13 #[.val (.ref a1), .val (.ref a2), .val (.int v19), .val (.int (2 : Int32))] [])) _
    refine XS.aloadN X21.here hx rfl (hb hby d5_13) rfl rfl ?_
    show Steps p.tables e below (T21.setTop (mkF m 14 #[.val (.ref a1), .val (.ref a2), .val (.int v19), .val (.int (2 : Int32))] [(.ref a1)])) _
    refine st23 _ ?_
    show Steps p.tables e below (T23.setTop (mkF m 17 #[.val (.ref a1), .val (.ref a2), .val (.int v19), .val (.int (2 : Int32))] [(.ref b1)])) _
    refine XS.iloadN X23.here hx rfl (hb hby d5_17) rfl ?_
    show Steps p.tables e below (T23.setTop (mkF m 18 #[.val (.ref a1), .val (.ref a2), .val (.int v19), .val (.int (2 : Int32))] [(.int (2 : Int32)), (.ref b1)])) _
    refine X23.iaload hx (j := (2 : Int32)) (v := (.int x2)) (by rw [e23]; exact Arq24.1) (State.isArrayOf_alike hZ.alike Arq24.2.1) Arq24.2.2 hiq24 haq24 (g := (mkF m 18 #[.val (.ref a1), .val (.ref a2), .val (.int v19), .val (.int (2 : Int32))] [(.int (2 : Int32)), (.ref b1)])) rfl rfl (hb hby d5_18) _ ?_
    show Steps p.tables e below (T23.setTop (mkF m 19 #[.val (.ref a1), .val (.ref a2), .val (.int v19), .val (.int (2 : Int32))] [(.int x2)])) _
    refine XS.aloadN X23.here hx rfl (hb hby d5_19) rfl rfl ?_
    show Steps p.tables e below (T23.setTop (mkF m 20 #[.val (.ref a1), .val (.ref a2), .val (.int v19), .val (.int (2 : Int32))] [(.ref a2), (.int x2)])) _
    refine st25 _ ?_
    show Steps p.tables e below (T25.setTop (mkF m 23 #[.val (.ref a1), .val (.ref a2), .val (.int v19), .val (.int (2 : Int32))] [(.ref b3), (.int x2)])) _
    refine XS.iloadN X25.here hx rfl (hb hby d5_23) rfl ?_
    show Steps p.tables e below (T25.setTop (mkF m 24 #[.val (.ref a1), .val (.ref a2), .val (.int v19), .val (.int (2 : Int32))] [(.int (2 : Int32)), (.ref b3), (.int x2)])) _
    refine X25.iaload hx (j := (2 : Int32)) (v := (.int y2)) (by rw [e25]; exact Arq26.1) (State.isArrayOf_alike hZ.alike Arq26.2.1) Arq26.2.2 hiq26 haq26 (g := (mkF m 24 #[.val (.ref a1), .val (.ref a2), .val (.int v19), .val (.int (2 : Int32))] [(.int (2 : Int32)), (.ref b3), (.int x2)])) rfl rfl (hb hby d5_24) _ ?_
    exact kt
  obtain ⟨v29, hv29⟩ : ∃ z : Int32, z = if x2 = y2 then v19 else (v19 + (1 : Int32)) := ⟨_, rfl⟩
  have k30 : ∀ tq, Steps p.tables e below (T25.setTop (mkF m 31 #[.val (.ref a1), .val (.ref a2), .val (.int v29), .val (.int (2 : Int32))] [])) tq → Steps p.tables e below (s₁.setTop (entryFrame m #[(.ref a1), (.ref a2)] 4)) tq := by
    intro tq kt
    by_cases hc28 : x2 = y2
    · rw [if_pos hc28] at hv29
      rw [hv29] at kt
      refine k27 tq ?_
      show Steps p.tables e below (T25.setTop (mkF m 25 #[.val (.ref a1), .val (.ref a2), .val (.int v19), .val (.int (2 : Int32))] [(.int y2), (.int x2)])) _
      refine XS.icmpYes X25.here hx rfl (pc0 := 25) (pc' := 31) rfl (hb hby d5_25) rfl (teq hc28).1 (by decide) (by decide) ?_
      exact kt
    · rw [if_neg hc28] at hv29
      rw [hv29] at kt
      refine k27 tq ?_
      show Steps p.tables e below (T25.setTop (mkF m 25 #[.val (.ref a1), .val (.ref a2), .val (.int v19), .val (.int (2 : Int32))] [(.int y2), (.int x2)])) _
      refine XS.icmpNo X25.here hx rfl (hb hby d5_25) rfl (feq hc28).1 ?_
      show Steps p.tables e below (T25.setTop (mkF m 28 #[.val (.ref a1), .val (.ref a2), .val (.int v19), .val (.int (2 : Int32))] [])) _
      refine XS.iinc X25.here hx rfl (hb hby d5_28) rfl (l' := #[.val (.ref a1), .val (.ref a2), .val (.int (v19 + (1 : Int32))), .val (.int (2 : Int32))]) rfl ?_
      exact kt
  obtain ⟨T31, X31, e31, st31⟩ := getF X25 hx hZ hown (host := "") (Or.inl (hw _ (List.mem_of_getElem? (i := 17) rfl))) Via.refl e25 F1 (g := (mkF m 6 #[.val (.ref a1), .val (.ref a2), .val (.int v29), .val (.int (3 : Int32))] [(.ref a1), (.int (3 : Int32))])) rfl rfl (hb hby d5_6)
  obtain ⟨clq32, Arq32, cq32, Sq32, nq32, Hq32, Gq32⟩ := id V1
  obtain ⟨T33, X33, e33, st33⟩ := getF X31 hx hZ hown (host := "") (Or.inl (hw _ (List.mem_of_getElem? (i := 19) rfl))) Via.refl e31 F2 (g := (mkF m 41 #[.val (.ref a1), .val (.ref a2), .val (.int v29), .val (.int (0 : Int32))] [(.ref a1), (.int (0 : Int32))])) rfl rfl (hb hby d5_41)
  obtain ⟨clq34, Arq34, cq34, Sq34, nq34, Hq34, Gq34⟩ := id V2
  obtain ⟨T35, X35, e35, st35⟩ := getF X33 hx hZ hown (host := "") (Or.inl (hw _ (List.mem_of_getElem? (i := 19) rfl))) Via.refl e33 F2 (g := (mkF m 49 #[.val (.ref a1), .val (.ref a2), .val (.int v29), .val (.int (0 : Int32))] [(.ref a1)])) rfl rfl (hb hby d5_49)
  obtain ⟨clq36, Arq36, cq36, Sq36, nq36, Hq36, Gq36⟩ := id V2
  have hiq36 : ¬ ((0 : Int32) < 0 ∨ clq36.slots.size ≤ ((0 : Int32)).toNatClampNeg) := inb_of Sq36 ⟨by decide, by decide⟩
  have haq36 : clq36.slots[((0 : Int32)).toNatClampNeg]? = some (.int u0) := Hq36.at hiq36 rfl
  obtain ⟨T37, X37, e37, st37⟩ := getF X35 hx hZ hown (host := "") (Or.inl (hw _ (List.mem_of_getElem? (i := 19) rfl))) Via.refl e35 F4 (g := (mkF m 55 #[.val (.ref a1), .val (.ref a2), .val (.int v29), .val (.int (0 : Int32))] [(.ref a2), (.int u0)])) rfl rfl (hb hby d5_55)
  obtain ⟨clq38, Arq38, cq38, Sq38, nq38, Hq38, Gq38⟩ := id V4
  have hiq38 : ¬ ((0 : Int32) < 0 ∨ clq38.slots.size ≤ ((0 : Int32)).toNatClampNeg) := inb_of Sq38 ⟨by decide, by decide⟩
  have haq38 : clq38.slots[((0 : Int32)).toNatClampNeg]? = some (.int w0) := Hq38.at hiq38 rfl
  have k39 : ∀ tq, Steps p.tables e below (T37.setTop (mkF m 60 #[.val (.ref a1), .val (.ref a2), .val (.int v29), .val (.int (0 : Int32))] [(.int w0), (.int u0)])) tq → Steps p.tables e below (s₁.setTop (entryFrame m #[(.ref a1), (.ref a2)] 4)) tq := by
    intro tq kt
    refine k30 tq ?_
    show Steps p.tables e below (T25.setTop (mkF m 31 #[.val (.ref a1), .val (.ref a2), .val (.int v29), .val (.int (2 : Int32))] [])) _
    refine XS.iinc X25.here hx rfl (hb hby d5_31) rfl (l' := #[.val (.ref a1), .val (.ref a2), .val (.int v29), .val (.int (3 : Int32))]) rfl ?_
    show Steps p.tables e below (T25.setTop (mkF m 34 #[.val (.ref a1), .val (.ref a2), .val (.int v29), .val (.int (3 : Int32))] [])) _
    refine XS.goto X25.here hx rfl (pc0 := 34) (pc' := 4) rfl (hb hby d5_34) (by decide) (by decide) ?_
    show Steps p.tables e below (T25.setTop (mkF m 4 #[.val (.ref a1), .val (.ref a2), .val (.int v29), .val (.int (3 : Int32))] [])) _
    refine XS.iloadN X25.here hx rfl (hb hby d5_4) rfl ?_
    show Steps p.tables e below (T25.setTop (mkF m 5 #[.val (.ref a1), .val (.ref a2), .val (.int v29), .val (.int (3 : Int32))] [(.int (3 : Int32))])) _
    refine XS.aloadN X25.here hx rfl (hb hby d5_5) rfl rfl ?_
    show Steps p.tables e below (T25.setTop (mkF m 6 #[.val (.ref a1), .val (.ref a2), .val (.int v29), .val (.int (3 : Int32))] [(.ref a1), (.int (3 : Int32))])) _
    refine st31 _ ?_
    show Steps p.tables e below (T31.setTop (mkF m 9 #[.val (.ref a1), .val (.ref a2), .val (.int v29), .val (.int (3 : Int32))] [(.ref b1), (.int (3 : Int32))])) _
    refine X31.arraylength hx (by rw [e31]; exact Arq32.1) (State.isArrayOf_alike hZ.alike Arq32.2.1) (g := (mkF m 9 #[.val (.ref a1), .val (.ref a2), .val (.int v29), .val (.int (3 : Int32))] [(.ref b1), (.int (3 : Int32))])) rfl rfl (hb hby d5_9) _ ?_
    rw [len_of Sq32 nq32]
    show Steps p.tables e below (T31.setTop (mkF m 10 #[.val (.ref a1), .val (.ref a2), .val (.int v29), .val (.int (3 : Int32))] [(.int (3 : Int32)), (.int (3 : Int32))])) _
    refine XS.icmpYes X31.here hx rfl (pc0 := 10) (pc' := 37) rfl (hb hby d5_10) rfl (flt (by decide : ¬ ((3 : Int32) < (3 : Int32)))).2.1 (by decide) (by decide) ?_
    show Steps p.tables e below (T31.setTop (mkF m 37 #[.val (.ref a1), .val (.ref a2), .val (.int v29), .val (.int (3 : Int32))] [])) _
    refine XS.iconst X31.here hx rfl (hb hby d5_37) ?_
    show Steps p.tables e below (T31.setTop (mkF m 38 #[.val (.ref a1), .val (.ref a2), .val (.int v29), .val (.int (3 : Int32))] [(.int (0 : Int32))])) _
    refine XS.istoreN X31.here hx rfl (hb hby d5_38) rfl (l' := #[.val (.ref a1), .val (.ref a2), .val (.int v29), .val (.int (0 : Int32))]) rfl ?_
    show Steps p.tables e below (T31.setTop (mkF m 39 #[.val (.ref a1), .val (.ref a2), .val (.int v29), .val (.int (0 : Int32))] [])) _
    refine XS.iloadN X31.here hx rfl (hb hby d5_39) rfl ?_
    show Steps p.tables e below (T31.setTop (mkF m 40 #[.val (.ref a1), .val (.ref a2), .val (.int v29), .val (.int (0 : Int32))] [(.int (0 : Int32))])) _
    refine XS.aloadN X31.here hx rfl (hb hby d5_40) rfl rfl ?_
    show Steps p.tables e below (T31.setTop (mkF m 41 #[.val (.ref a1), .val (.ref a2), .val (.int v29), .val (.int (0 : Int32))] [(.ref a1), (.int (0 : Int32))])) _
    refine st33 _ ?_
    show Steps p.tables e below (T33.setTop (mkF m 44 #[.val (.ref a1), .val (.ref a2), .val (.int v29), .val (.int (0 : Int32))] [(.ref b2), (.int (0 : Int32))])) _
    refine X33.arraylength hx (by rw [e33]; exact Arq34.1) (State.isArrayOf_alike hZ.alike Arq34.2.1) (g := (mkF m 44 #[.val (.ref a1), .val (.ref a2), .val (.int v29), .val (.int (0 : Int32))] [(.ref b2), (.int (0 : Int32))])) rfl rfl (hb hby d5_44) _ ?_
    rw [len_of Sq34 nq34]
    show Steps p.tables e below (T33.setTop (mkF m 45 #[.val (.ref a1), .val (.ref a2), .val (.int v29), .val (.int (0 : Int32))] [(.int (2 : Int32)), (.int (0 : Int32))])) _
    refine XS.icmpNo X33.here hx rfl (hb hby d5_45) rfl (tlt (by decide : ((0 : Int32) < (2 : Int32)))).2.1 ?_
    show Steps p.tables e below (T33.setTop (mkF m 48 #[.val (.ref a1), .val (.ref a2), .val (.int v29), .val (.int (0 : Int32))] [])) _
    refine XS.aloadN X33.here hx rfl (hb hby d5_48) rfl rfl ?_
    show Steps p.tables e below (T33.setTop (mkF m 49 #[.val (.ref a1), .val (.ref a2), .val (.int v29), .val (.int (0 : Int32))] [(.ref a1)])) _
    refine st35 _ ?_
    show Steps p.tables e below (T35.setTop (mkF m 52 #[.val (.ref a1), .val (.ref a2), .val (.int v29), .val (.int (0 : Int32))] [(.ref b2)])) _
    refine XS.iloadN X35.here hx rfl (hb hby d5_52) rfl ?_
    show Steps p.tables e below (T35.setTop (mkF m 53 #[.val (.ref a1), .val (.ref a2), .val (.int v29), .val (.int (0 : Int32))] [(.int (0 : Int32)), (.ref b2)])) _
    refine X35.iaload hx (j := (0 : Int32)) (v := (.int u0)) (by rw [e35]; exact Arq36.1) (State.isArrayOf_alike hZ.alike Arq36.2.1) Arq36.2.2 hiq36 haq36 (g := (mkF m 53 #[.val (.ref a1), .val (.ref a2), .val (.int v29), .val (.int (0 : Int32))] [(.int (0 : Int32)), (.ref b2)])) rfl rfl (hb hby d5_53) _ ?_
    show Steps p.tables e below (T35.setTop (mkF m 54 #[.val (.ref a1), .val (.ref a2), .val (.int v29), .val (.int (0 : Int32))] [(.int u0)])) _
    refine XS.aloadN X35.here hx rfl (hb hby d5_54) rfl rfl ?_
    show Steps p.tables e below (T35.setTop (mkF m 55 #[.val (.ref a1), .val (.ref a2), .val (.int v29), .val (.int (0 : Int32))] [(.ref a2), (.int u0)])) _
    refine st37 _ ?_
    show Steps p.tables e below (T37.setTop (mkF m 58 #[.val (.ref a1), .val (.ref a2), .val (.int v29), .val (.int (0 : Int32))] [(.ref b4), (.int u0)])) _
    refine XS.iloadN X37.here hx rfl (hb hby d5_58) rfl ?_
    show Steps p.tables e below (T37.setTop (mkF m 59 #[.val (.ref a1), .val (.ref a2), .val (.int v29), .val (.int (0 : Int32))] [(.int (0 : Int32)), (.ref b4), (.int u0)])) _
    refine X37.iaload hx (j := (0 : Int32)) (v := (.int w0)) (by rw [e37]; exact Arq38.1) (State.isArrayOf_alike hZ.alike Arq38.2.1) Arq38.2.2 hiq38 haq38 (g := (mkF m 59 #[.val (.ref a1), .val (.ref a2), .val (.int v29), .val (.int (0 : Int32))] [(.int (0 : Int32)), (.ref b4), (.int u0)])) rfl rfl (hb hby d5_59) _ ?_
    exact kt
  obtain ⟨v41, hv41⟩ : ∃ z : Int32, z = if u0 = w0 then v29 else (v29 + (1 : Int32)) := ⟨_, rfl⟩
  have k42 : ∀ tq, Steps p.tables e below (T37.setTop (mkF m 66 #[.val (.ref a1), .val (.ref a2), .val (.int v41), .val (.int (0 : Int32))] [])) tq → Steps p.tables e below (s₁.setTop (entryFrame m #[(.ref a1), (.ref a2)] 4)) tq := by
    intro tq kt
    by_cases hc40 : u0 = w0
    · rw [if_pos hc40] at hv41
      rw [hv41] at kt
      refine k39 tq ?_
      show Steps p.tables e below (T37.setTop (mkF m 60 #[.val (.ref a1), .val (.ref a2), .val (.int v29), .val (.int (0 : Int32))] [(.int w0), (.int u0)])) _
      refine XS.icmpYes X37.here hx rfl (pc0 := 60) (pc' := 66) rfl (hb hby d5_60) rfl (teq hc40).1 (by decide) (by decide) ?_
      exact kt
    · rw [if_neg hc40] at hv41
      rw [hv41] at kt
      refine k39 tq ?_
      show Steps p.tables e below (T37.setTop (mkF m 60 #[.val (.ref a1), .val (.ref a2), .val (.int v29), .val (.int (0 : Int32))] [(.int w0), (.int u0)])) _
      refine XS.icmpNo X37.here hx rfl (hb hby d5_60) rfl (feq hc40).1 ?_
      show Steps p.tables e below (T37.setTop (mkF m 63 #[.val (.ref a1), .val (.ref a2), .val (.int v29), .val (.int (0 : Int32))] [])) _
      refine XS.iinc X37.here hx rfl (hb hby d5_63) rfl (l' := #[.val (.ref a1), .val (.ref a2), .val (.int (v29 + (1 : Int32))), .val (.int (0 : Int32))]) rfl ?_
      exact kt
  obtain ⟨T43, X43, e43, st43⟩ := getF X37 hx hZ hown (host := "") (Or.inl (hw _ (List.mem_of_getElem? (i := 19) rfl))) Via.refl e37 F2 (g := (mkF m 41 #[.val (.ref a1), .val (.ref a2), .val (.int v41), .val (.int (1 : Int32))] [(.ref a1), (.int (1 : Int32))])) rfl rfl (hb hby d5_41)
  obtain ⟨clq44, Arq44, cq44, Sq44, nq44, Hq44, Gq44⟩ := id V2
  obtain ⟨T45, X45, e45, st45⟩ := getF X43 hx hZ hown (host := "") (Or.inl (hw _ (List.mem_of_getElem? (i := 19) rfl))) Via.refl e43 F2 (g := (mkF m 49 #[.val (.ref a1), .val (.ref a2), .val (.int v41), .val (.int (1 : Int32))] [(.ref a1)])) rfl rfl (hb hby d5_49)
  obtain ⟨clq46, Arq46, cq46, Sq46, nq46, Hq46, Gq46⟩ := id V2
  have hiq46 : ¬ ((1 : Int32) < 0 ∨ clq46.slots.size ≤ ((1 : Int32)).toNatClampNeg) := inb_of Sq46 ⟨by decide, by decide⟩
  have haq46 : clq46.slots[((1 : Int32)).toNatClampNeg]? = some (.int u1) := Hq46.at hiq46 rfl
  obtain ⟨T47, X47, e47, st47⟩ := getF X45 hx hZ hown (host := "") (Or.inl (hw _ (List.mem_of_getElem? (i := 19) rfl))) Via.refl e45 F4 (g := (mkF m 55 #[.val (.ref a1), .val (.ref a2), .val (.int v41), .val (.int (1 : Int32))] [(.ref a2), (.int u1)])) rfl rfl (hb hby d5_55)
  obtain ⟨clq48, Arq48, cq48, Sq48, nq48, Hq48, Gq48⟩ := id V4
  have hiq48 : ¬ ((1 : Int32) < 0 ∨ clq48.slots.size ≤ ((1 : Int32)).toNatClampNeg) := inb_of Sq48 ⟨by decide, by decide⟩
  have haq48 : clq48.slots[((1 : Int32)).toNatClampNeg]? = some (.int w1) := Hq48.at hiq48 rfl
  have k49 : ∀ tq, Steps p.tables e below (T47.setTop (mkF m 60 #[.val (.ref a1), .val (.ref a2), .val (.int v41), .val (.int (1 : Int32))] [(.int w1), (.int u1)])) tq → Steps p.tables e below (s₁.setTop (entryFrame m #[(.ref a1), (.ref a2)] 4)) tq := by
    intro tq kt
    refine k42 tq ?_
    show Steps p.tables e below (T37.setTop (mkF m 66 #[.val (.ref a1), .val (.ref a2), .val (.int v41), .val (.int (0 : Int32))] [])) _
    refine XS.iinc X37.here hx rfl (hb hby d5_66) rfl (l' := #[.val (.ref a1), .val (.ref a2), .val (.int v41), .val (.int (1 : Int32))]) rfl ?_
    show Steps p.tables e below (T37.setTop (mkF m 69 #[.val (.ref a1), .val (.ref a2), .val (.int v41), .val (.int (1 : Int32))] [])) _
    refine XS.goto X37.here hx rfl (pc0 := 69) (pc' := 39) rfl (hb hby d5_69) (by decide) (by decide) ?_
    show Steps p.tables e below (T37.setTop (mkF m 39 #[.val (.ref a1), .val (.ref a2), .val (.int v41), .val (.int (1 : Int32))] [])) _
    refine XS.iloadN X37.here hx rfl (hb hby d5_39) rfl ?_
    show Steps p.tables e below (T37.setTop (mkF m 40 #[.val (.ref a1), .val (.ref a2), .val (.int v41), .val (.int (1 : Int32))] [(.int (1 : Int32))])) _
    refine XS.aloadN X37.here hx rfl (hb hby d5_40) rfl rfl ?_
    show Steps p.tables e below (T37.setTop (mkF m 41 #[.val (.ref a1), .val (.ref a2), .val (.int v41), .val (.int (1 : Int32))] [(.ref a1), (.int (1 : Int32))])) _
    refine st43 _ ?_
    show Steps p.tables e below (T43.setTop (mkF m 44 #[.val (.ref a1), .val (.ref a2), .val (.int v41), .val (.int (1 : Int32))] [(.ref b2), (.int (1 : Int32))])) _
    refine X43.arraylength hx (by rw [e43]; exact Arq44.1) (State.isArrayOf_alike hZ.alike Arq44.2.1) (g := (mkF m 44 #[.val (.ref a1), .val (.ref a2), .val (.int v41), .val (.int (1 : Int32))] [(.ref b2), (.int (1 : Int32))])) rfl rfl (hb hby d5_44) _ ?_
    rw [len_of Sq44 nq44]
    show Steps p.tables e below (T43.setTop (mkF m 45 #[.val (.ref a1), .val (.ref a2), .val (.int v41), .val (.int (1 : Int32))] [(.int (2 : Int32)), (.int (1 : Int32))])) _
    refine XS.icmpNo X43.here hx rfl (hb hby d5_45) rfl (tlt (by decide : ((1 : Int32) < (2 : Int32)))).2.1 ?_
    show Steps p.tables e below (T43.setTop (mkF m 48 #[.val (.ref a1), .val (.ref a2), .val (.int v41), .val (.int (1 : Int32))] [])) _
    refine XS.aloadN X43.here hx rfl (hb hby d5_48) rfl rfl ?_
    show Steps p.tables e below (T43.setTop (mkF m 49 #[.val (.ref a1), .val (.ref a2), .val (.int v41), .val (.int (1 : Int32))] [(.ref a1)])) _
    refine st45 _ ?_
    show Steps p.tables e below (T45.setTop (mkF m 52 #[.val (.ref a1), .val (.ref a2), .val (.int v41), .val (.int (1 : Int32))] [(.ref b2)])) _
    refine XS.iloadN X45.here hx rfl (hb hby d5_52) rfl ?_
    show Steps p.tables e below (T45.setTop (mkF m 53 #[.val (.ref a1), .val (.ref a2), .val (.int v41), .val (.int (1 : Int32))] [(.int (1 : Int32)), (.ref b2)])) _
    refine X45.iaload hx (j := (1 : Int32)) (v := (.int u1)) (by rw [e45]; exact Arq46.1) (State.isArrayOf_alike hZ.alike Arq46.2.1) Arq46.2.2 hiq46 haq46 (g := (mkF m 53 #[.val (.ref a1), .val (.ref a2), .val (.int v41), .val (.int (1 : Int32))] [(.int (1 : Int32)), (.ref b2)])) rfl rfl (hb hby d5_53) _ ?_
    show Steps p.tables e below (T45.setTop (mkF m 54 #[.val (.ref a1), .val (.ref a2), .val (.int v41), .val (.int (1 : Int32))] [(.int u1)])) _
    refine XS.aloadN X45.here hx rfl (hb hby d5_54) rfl rfl ?_
    show Steps p.tables e below (T45.setTop (mkF m 55 #[.val (.ref a1), .val (.ref a2), .val (.int v41), .val (.int (1 : Int32))] [(.ref a2), (.int u1)])) _
    refine st47 _ ?_
    show Steps p.tables e below (T47.setTop (mkF m 58 #[.val (.ref a1), .val (.ref a2), .val (.int v41), .val (.int (1 : Int32))] [(.ref b4), (.int u1)])) _
    refine XS.iloadN X47.here hx rfl (hb hby d5_58) rfl ?_
    show Steps p.tables e below (T47.setTop (mkF m 59 #[.val (.ref a1), .val (.ref a2), .val (.int v41), .val (.int (1 : Int32))] [(.int (1 : Int32)), (.ref b4), (.int u1)])) _
    refine X47.iaload hx (j := (1 : Int32)) (v := (.int w1)) (by rw [e47]; exact Arq48.1) (State.isArrayOf_alike hZ.alike Arq48.2.1) Arq48.2.2 hiq48 haq48 (g := (mkF m 59 #[.val (.ref a1), .val (.ref a2), .val (.int v41), .val (.int (1 : Int32))] [(.int (1 : Int32)), (.ref b4), (.int u1)])) rfl rfl (hb hby d5_59) _ ?_
    exact kt
  obtain ⟨v51, hv51⟩ : ∃ z : Int32, z = if u1 = w1 then v41 else (v41 + (1 : Int32)) := ⟨_, rfl⟩
  have k52 : ∀ tq, Steps p.tables e below (T47.setTop (mkF m 66 #[.val (.ref a1), .val (.ref a2), .val (.int v51), .val (.int (1 : Int32))] [])) tq → Steps p.tables e below (s₁.setTop (entryFrame m #[(.ref a1), (.ref a2)] 4)) tq := by
    intro tq kt
    by_cases hc50 : u1 = w1
    · rw [if_pos hc50] at hv51
      rw [hv51] at kt
      refine k49 tq ?_
      show Steps p.tables e below (T47.setTop (mkF m 60 #[.val (.ref a1), .val (.ref a2), .val (.int v41), .val (.int (1 : Int32))] [(.int w1), (.int u1)])) _
      refine XS.icmpYes X47.here hx rfl (pc0 := 60) (pc' := 66) rfl (hb hby d5_60) rfl (teq hc50).1 (by decide) (by decide) ?_
      exact kt
    · rw [if_neg hc50] at hv51
      rw [hv51] at kt
      refine k49 tq ?_
      show Steps p.tables e below (T47.setTop (mkF m 60 #[.val (.ref a1), .val (.ref a2), .val (.int v41), .val (.int (1 : Int32))] [(.int w1), (.int u1)])) _
      refine XS.icmpNo X47.here hx rfl (hb hby d5_60) rfl (feq hc50).1 ?_
      show Steps p.tables e below (T47.setTop (mkF m 63 #[.val (.ref a1), .val (.ref a2), .val (.int v41), .val (.int (1 : Int32))] [])) _
      refine XS.iinc X47.here hx rfl (hb hby d5_63) rfl (l' := #[.val (.ref a1), .val (.ref a2), .val (.int (v41 + (1 : Int32))), .val (.int (1 : Int32))]) rfl ?_
      exact kt
  obtain ⟨T53, X53, e53, st53⟩ := getF X47 hx hZ hown (host := "") (Or.inl (hw _ (List.mem_of_getElem? (i := 19) rfl))) Via.refl e47 F2 (g := (mkF m 41 #[.val (.ref a1), .val (.ref a2), .val (.int v51), .val (.int (2 : Int32))] [(.ref a1), (.int (2 : Int32))])) rfl rfl (hb hby d5_41)
  obtain ⟨clq54, Arq54, cq54, Sq54, nq54, Hq54, Gq54⟩ := id V2
  obtain ⟨fs, hr, hrun, hended, hW, hsame⟩ := X53.leave (v := some (.int v51)) (fun h => by rw [Bd.returns] at h; cases h)
  refine ⟨_, _, k52 _ ?_, hrun, hended, _, _, rfl, ?_, ⟨_, rfl⟩, hW, hsame.mono (by decide) (by decide)⟩
  · show Steps p.tables e below (T47.setTop (mkF m 66 #[.val (.ref a1), .val (.ref a2), .val (.int v51), .val (.int (1 : Int32))] [])) _
    refine XS.iinc X47.here hx rfl (hb hby d5_66) rfl (l' := #[.val (.ref a1), .val (.ref a2), .val (.int v51), .val (.int (2 : Int32))]) rfl ?_
    show Steps p.tables e below (T47.setTop (mkF m 69 #[.val (.ref a1), .val (.ref a2), .val (.int v51), .val (.int (2 : Int32))] [])) _
    refine XS.goto X47.here hx rfl (pc0 := 69) (pc' := 39) rfl (hb hby d5_69) (by decide) (by decide) ?_
    show Steps p.tables e below (T47.setTop (mkF m 39 #[.val (.ref a1), .val (.ref a2), .val (.int v51), .val (.int (2 : Int32))] [])) _
    refine XS.iloadN X47.here hx rfl (hb hby d5_39) rfl ?_
    show Steps p.tables e below (T47.setTop (mkF m 40 #[.val (.ref a1), .val (.ref a2), .val (.int v51), .val (.int (2 : Int32))] [(.int (2 : Int32))])) _
    refine XS.aloadN X47.here hx rfl (hb hby d5_40) rfl rfl ?_
    show Steps p.tables e below (T47.setTop (mkF m 41 #[.val (.ref a1), .val (.ref a2), .val (.int v51), .val (.int (2 : Int32))] [(.ref a1), (.int (2 : Int32))])) _
    refine st53 _ ?_
    show Steps p.tables e below (T53.setTop (mkF m 44 #[.val (.ref a1), .val (.ref a2), .val (.int v51), .val (.int (2 : Int32))] [(.ref b2), (.int (2 : Int32))])) _
    refine X53.arraylength hx (by rw [e53]; exact Arq54.1) (State.isArrayOf_alike hZ.alike Arq54.2.1) (g := (mkF m 44 #[.val (.ref a1), .val (.ref a2), .val (.int v51), .val (.int (2 : Int32))] [(.ref b2), (.int (2 : Int32))])) rfl rfl (hb hby d5_44) _ ?_
    rw [len_of Sq54 nq54]
    show Steps p.tables e below (T53.setTop (mkF m 45 #[.val (.ref a1), .val (.ref a2), .val (.int v51), .val (.int (2 : Int32))] [(.int (2 : Int32)), (.int (2 : Int32))])) _
    refine XS.icmpYes X53.here hx rfl (pc0 := 45) (pc' := 72) rfl (hb hby d5_45) rfl (flt (by decide : ¬ ((2 : Int32) < (2 : Int32)))).2.1 (by decide) (by decide) ?_
    show Steps p.tables e below (T53.setTop (mkF m 72 #[.val (.ref a1), .val (.ref a2), .val (.int v51), .val (.int (2 : Int32))] [])) _
    refine XS.iloadN X53.here hx rfl (hb hby d5_72) rfl ?_
    show Steps p.tables e below (T53.setTop (mkF m 73 #[.val (.ref a1), .val (.ref a2), .val (.int v51), .val (.int (2 : Int32))] [(.int v51)])) _
    exact retI X53 hx Bd.returns (hb hby d5_73) hr
  · show own_QD Z a1 a2 x0 x1 x2 y0 y1 y2 u0 u1 w0 w1 h0 n0 _ T53.heap _
    rw [e53]
    exact ⟨congrArg (fun z => some (Value.int z)) (show v51 = own_dist x0 x1 x2 y0 y1 y2 u0 u1 w0 w1 from by rw [hv51, hv41, hv29, hv19, hv9]; rfl), N0, rfl⟩
theorem pd_0 : parseMethodDescriptor "(IIII)I" = some ⟨[.int, .int, .int, .int], some .int⟩ := by decide +kernel
theorem pd_1 : parseMethodDescriptor "([I[IZ)V" = some ⟨[(.array .int), (.array .int), .boolean], none⟩ := by decide +kernel
theorem pd_2 : parseMethodDescriptor "()V" = some ⟨[], none⟩ := by decide +kernel
theorem pd_3 : parseMethodDescriptor "(II)I" = some ⟨[.int, .int], some .int⟩ := by decide +kernel
theorem pd_4 : parseMethodDescriptor "(Lcom/example/makespun/makespun/planner/evolution/Candidate;)I" = some ⟨[(.object "com/example/makespun/makespun/planner/evolution/Candidate")], some .int⟩ := by decide +kernel
def own_Q0 (Z : State) (ia ib ic id_ ie fl : Int32) (h0 : Heap) (n0 : Nat) (v : Option Value) (h : Heap) (L : List Loc) : Prop := v = some (.int 1) ∧ Fr n0 L
theorem pn_0 : plainName "com/example/makespun/makespun/planner/evolution/CandidateDistancePinLaw" = true := by first | (simp [plainName, overriddenIn]; done) | decide +kernel
theorem ef_0 (m : MethodId) (x0 : Int32) (x1 : Int32) (x2 : Int32) (x3 : Int32) (x4 : Int32) (x5 : Int32) : entryFrame m #[(.int x0), (.int x1), (.int x2), (.int x3), (.int x4), (.int x5)] maxLocals = mkF m 0 #[.val (.int x0), .val (.int x1), .val (.int x2), .val (.int x3), .val (.int x4), .val (.int x5), .unset, .unset, .unset, .unset, .unset, .unset, .unset, .unset, .unset, .unset, .unset, .unset] [] := by first | (simp [entryFrame, mkF, argsToLocals, Value.category, maxLocals]; done) | rfl
set_option maxRecDepth 65536 in
set_option maxHeartbeats 40000000 in
theorem rm0 (l : Launch) (Z : State) (a0 : Array Value) (hw : ∀ d ∈ tables_1, d.before a0 Z = true) (ws : List Jvm.Cond) (ia ib ic id_ ie fl : Int32) (h0 : Heap) (n0 : Nat) (Z0 : n0 ≤ h0.size) :
    MetFree l x (head1 (Jvm.Cond.code x code maxLocals ret :: ws) room_1) (fun a U => a = #[(.int ia), (.int ib), (.int ic), (.int id_), (.int ie), (.int fl)] ∧ Z.Warmed39 U.vm ∧ U.heap = h0) (fun _ _ _ _ _ => True) (fun _ U o U' => ∃ v L, o = .returned v ∧ own_Q0 Z ia ib ic id_ ie fl h0 n0 v U'.heap L ∧ FrameEnd U o U' L room_1.cells room_1.slots) := by
  refine MetFree.of_bodySF (plainFor_of_name pn_0) hisR ?_
  intro p e s m args below meth c s₁ Bd hml0 hP hK
  obtain ⟨rfl, hZ, hh⟩ := hP
  have hx := Bd.exec
  have hby := Bd.bytes
  have hml : c.maxLocals = 18 := hml0
  have hown : s.vm.findClass "com/example/makespun/makespun/planner/evolution/CandidateDistancePinLaw" = some m.cls := findClass_of_methodNamed Bd.named
  have hnm := (name_of_methodNamed Bd.named Bd.method).1
  have X0 : Stand p l e room_1 s m #[(.int ia), (.int ib), (.int ic), (.int id_), (.int ie), (.int fl)] below meth c s₁ [] 0 0 := Stand.of_body Bd
  have e0 : s₁.heap = h0 := by rw [← hh, Bd.state]; rfl
  have N0 := Fr.nil n0
  have pre0 : ∀ tq, Steps p.tables e below (s₁.setTop (mkF m 0 #[.val (.int ia), .val (.int ib), .val (.int ic), .val (.int id_), .val (.int ie), .val (.int fl), .unset, .unset, .unset, .unset, .unset, .unset, .unset, .unset, .unset, .unset, .unset, .unset] [])) tq → Steps p.tables e below (s₁.setTop (entryFrame m #[(.int ia), (.int ib), (.int ic), (.int id_), (.int ie), (.int fl)] maxLocals)) tq := fun tq k => castTop (ef_0 m ia ib ic id_ ie fl) k
  obtain ⟨T1, h1, k1, X1, e1, E1, A1, st1⟩ := newP X0 hx hZ (hw _ (List.mem_of_getElem? (i := 0) rfl)) e0 (g := (mkF m 1 #[.val (.int ia), .val (.int ib), .val (.int ic), .val (.int id_), .val (.int ie), .val (.int fl), .unset, .unset, .unset, .unset, .unset, .unset, .unset, .unset, .unset, .unset, .unset, .unset] [(.int (3 : Int32))])) rfl (hb hby at_1) rfl (by decide) (cap := 3) (by decide) (by decide) (by decide) (by decide)
  obtain ⟨b1, g1⟩ : ∃ z, z = h0.size := ⟨_, rfl⟩
  rw [← g1] at A1 st1
  have g_b1 : n0 ≤ b1 := Nat.le_trans Z0 (Nat.le_of_eq g1.symm)
  have sz_b1 : h0.size ≤ b1 := Nat.le_trans (Keep.refl h0 []).1 (Nat.le_of_eq g1.symm)
  have z2 := Nat.le_trans Z0 E1.1
  have kp3 := (Keep.refl h0 []).ext E1
  have V_b1 : Arv Z h1 b1 k1 .int (3 : Int32) [(.int (0 : Int32)), (.int (0 : Int32)), (.int (0 : Int32))] (.int (0 : Int32)) := (Arv.new A1 (by decide)).pad (pad_rep [] (.int (0 : Int32)) 3)
  obtain ⟨clq4, Arq4, cq4, Sq4, nq4, Hq4, Gq4⟩ := id V_b1
  have hiq4 : ¬ ((0 : Int32) < 0 ∨ clq4.slots.size ≤ ((0 : Int32)).toNatClampNeg) := inb_of Sq4 ⟨by decide, by decide⟩
  obtain ⟨T5, h5, X5, e5, W5, st5⟩ := stI X1 hx hZ e1 Arq4 (j := (0 : Int32)) hiq4 (g := (mkF m 9 #[.val (.int ia), .val (.int ib), .val (.int ic), .val (.int id_), .val (.int ie), .val (.int fl), .val (.ref b1), .unset, .unset, .unset, .unset, .unset, .unset, .unset, .unset, .unset, .unset, .unset] [(.int ia), (.int (0 : Int32)), (.ref b1)])) rfl rfl (hb hby at_9)
  have v6 : Arv Z h5 b1 k1 .int (3 : Int32) [(.int ia), (.int (0 : Int32)), (.int (0 : Int32))] (.int (0 : Int32)) := Arv.set Arq4 cq4 Sq4 nq4 Hq4 Gq4 rfl W5 0 rfl (Nat.le_of_ble_eq_true rfl)
  have kp7 := kp3.wr W5 (Or.inr sz_b1)
  have z8 := Nat.le_trans z2 (Keep.of_wr W5).1
  have N9 := Fr.snoc X5 N0 g_b1
  obtain ⟨clq10, Arq10, cq10, Sq10, nq10, Hq10, Gq10⟩ := id v6
  have hiq10 : ¬ ((1 : Int32) < 0 ∨ clq10.slots.size ≤ ((1 : Int32)).toNatClampNeg) := inb_of Sq10 ⟨by decide, by decide⟩
  obtain ⟨T11, h11, X11, e11, W11, st11⟩ := stI X5 hx hZ e5 Arq10 (j := (1 : Int32)) hiq10 (g := (mkF m 14 #[.val (.int ia), .val (.int ib), .val (.int ic), .val (.int id_), .val (.int ie), .val (.int fl), .val (.ref b1), .unset, .unset, .unset, .unset, .unset, .unset, .unset, .unset, .unset, .unset, .unset] [(.int ib), (.int (1 : Int32)), (.ref b1)])) rfl rfl (hb hby at_14)
  have v12 : Arv Z h11 b1 k1 .int (3 : Int32) [(.int ia), (.int ib), (.int (0 : Int32))] (.int (0 : Int32)) := Arv.set Arq10 cq10 Sq10 nq10 Hq10 Gq10 rfl W11 1 rfl (Nat.le_of_ble_eq_true rfl)
  have kp13 := kp7.wr W11 (Or.inr sz_b1)
  have z14 := Nat.le_trans z8 (Keep.of_wr W11).1
  have N15 := Fr.snoc X11 N9 g_b1
  obtain ⟨clq16, Arq16, cq16, Sq16, nq16, Hq16, Gq16⟩ := id v12
  have hiq16 : ¬ ((2 : Int32) < 0 ∨ clq16.slots.size ≤ ((2 : Int32)).toNatClampNeg) := inb_of Sq16 ⟨by decide, by decide⟩
  obtain ⟨T17, h17, X17, e17, W17, st17⟩ := stI X11 hx hZ e11 Arq16 (j := (2 : Int32)) hiq16 (g := (mkF m 19 #[.val (.int ia), .val (.int ib), .val (.int ic), .val (.int id_), .val (.int ie), .val (.int fl), .val (.ref b1), .unset, .unset, .unset, .unset, .unset, .unset, .unset, .unset, .unset, .unset, .unset] [(.int ic), (.int (2 : Int32)), (.ref b1)])) rfl rfl (hb hby at_19)
  have v18 : Arv Z h17 b1 k1 .int (3 : Int32) [(.int ia), (.int ib), (.int ic)] (.int (0 : Int32)) := Arv.set Arq16 cq16 Sq16 nq16 Hq16 Gq16 rfl W17 2 rfl (Nat.le_of_ble_eq_true rfl)
  have kp19 := kp13.wr W17 (Or.inr sz_b1)
  have z20 := Nat.le_trans z14 (Keep.of_wr W17).1
  have N21 := Fr.snoc X17 N15 g_b1
  obtain ⟨T22, h22, k22, X22, e22, E22, A22, st22⟩ := newP X17 hx hZ (hw _ (List.mem_of_getElem? (i := 0) rfl)) e17 (g := (mkF m 21 #[.val (.int ia), .val (.int ib), .val (.int ic), .val (.int id_), .val (.int ie), .val (.int fl), .val (.ref b1), .unset, .unset, .unset, .unset, .unset, .unset, .unset, .unset, .unset, .unset, .unset] [(.int (3 : Int32))])) rfl (hb hby at_21) rfl (by decide) (cap := 3) (by decide) (by decide) (by decide) (by decide)
  obtain ⟨b22, g22⟩ : ∃ z, z = h17.size := ⟨_, rfl⟩
  rw [← g22] at A22 st22
  have ne_b1_b22 : b1 ≠ b22 := Nat.ne_of_lt (Nat.lt_of_lt_of_le v18.lt (Nat.le_of_eq g22.symm))
  have g_b22 : n0 ≤ b22 := Nat.le_trans z20 (Nat.le_of_eq g22.symm)
  have sz_b22 : h0.size ≤ b22 := Nat.le_trans kp19.1 (Nat.le_of_eq g22.symm)
  have f23 := v18.ext E22
  have z24 := Nat.le_trans z20 E22.1
  have kp25 := kp19.ext E22
  have V_b22 : Arv Z h22 b22 k22 .int (3 : Int32) [(.int (0 : Int32)), (.int (0 : Int32)), (.int (0 : Int32))] (.int (0 : Int32)) := (Arv.new A22 (by decide)).pad (pad_rep [] (.int (0 : Int32)) 3)
  obtain ⟨_, _, ⟨T26, L26, k26, n26⟩, -, X26, ⟨Lc26, hQ26, l26, y26, z26⟩, st26⟩ := Jvm.LawKit.callS X22 hx (y := (⟨"com/example/makespun/makespun/planner/evolution/CandidateDistancePinLaw", "pick", "(IIII)I"⟩ : MethodName)) hown (mvT hZ (hw _ (List.mem_of_getElem? (i := 1) rfl))) (mvT hZ (hw _ (List.mem_of_getElem? (i := 2) rfl))) (mvT hZ (hw _ (List.mem_of_getElem? (i := 3) rfl))) (mvT hZ (hw _ (List.mem_of_getElem? (i := 4) rfl))) (by decide) (backOf (W := 2) (rmP l Z a0 hw [] fl (0 : Int32) ia id_ h22 n0 z24) hZ (hw _ (List.mem_of_getElem? (i := 4) rfl)) (hw _ (List.mem_of_getElem? (i := 3) rfl)) (by decide) (by decide)) (g := (mkF m 33 #[.val (.int ia), .val (.int ib), .val (.int ic), .val (.int id_), .val (.int ie), .val (.int fl), .val (.ref b1), .val (.ref b22), .unset, .unset, .unset, .unset, .unset, .unset, .unset, .unset, .unset, .unset] [(.int id_), (.int ia), (.int (0 : Int32)), (.int fl), (.int (0 : Int32)), (.ref b22)])) rfl (by rw [hml]; rfl) (argsL := [(.int fl), (.int (0 : Int32)), (.int ia), (.int id_)]) (rest := [(.int (0 : Int32)), (.ref b22)]) (lenOf pd_0 rfl) rfl (by show 2 * 0 + _ ≤ _; exact Nat.le_of_eq rfl) (hb hby at_33) (fun _ _ => ⟨rfl, e22, (by decide : 2 + 0 ≤ _), (by decide : 6 + 0 ≤ _)⟩)
  dsimp only [Pt.U, Pt.locs, Pt.cells, Pt.slots] at X26 l26 y26 z26 st26 hQ26
  replace X26 := own_cast X26 l26 y26 z26
  obtain ⟨hv26, N26q, e26⟩ := hQ26
  rw [hv26] at st26
  have N26 := Fr.app N21 N26q
  obtain ⟨r26, hr26⟩ : ∃ z : Int32, z = (own_pick fl (0 : Int32) ia id_) := ⟨_, rfl⟩
  rw [← hr26] at st26
  obtain ⟨clq27, Arq27, cq27, Sq27, nq27, Hq27, Gq27⟩ := id V_b22
  have hiq27 : ¬ ((0 : Int32) < 0 ∨ clq27.slots.size ≤ ((0 : Int32)).toNatClampNeg) := inb_of Sq27 ⟨by decide, by decide⟩
  obtain ⟨T28, h28, X28, e28, W28, st28⟩ := stI X26 hx hZ e26 Arq27 (j := (0 : Int32)) hiq27 (g := (mkF m 36 #[.val (.int ia), .val (.int ib), .val (.int ic), .val (.int id_), .val (.int ie), .val (.int fl), .val (.ref b1), .val (.ref b22), .unset, .unset, .unset, .unset, .unset, .unset, .unset, .unset, .unset, .unset] [(.int r26), (.int (0 : Int32)), (.ref b22)])) rfl rfl (hb hby at_36)
  have v29 : Arv Z h28 b22 k22 .int (3 : Int32) [(.int r26), (.int (0 : Int32)), (.int (0 : Int32))] (.int (0 : Int32)) := Arv.set Arq27 cq27 Sq27 nq27 Hq27 Gq27 rfl W28 0 rfl (Nat.le_of_ble_eq_true rfl)
  have f30 := f23.other W28 ne_b1_b22
  have kp31 := kp25.wr W28 (Or.inr sz_b22)
  have z32 := Nat.le_trans z24 (Keep.of_wr W28).1
  have N33 := Fr.snoc X28 N26 g_b22
  obtain ⟨_, _, ⟨T34, L34, k34, n34⟩, -, X34, ⟨Lc34, hQ34, l34, y34, z34⟩, st34⟩ := Jvm.LawKit.callS X28 hx (y := (⟨"com/example/makespun/makespun/planner/evolution/CandidateDistancePinLaw", "pick", "(IIII)I"⟩ : MethodName)) hown (mvT hZ (hw _ (List.mem_of_getElem? (i := 1) rfl))) (mvT hZ (hw _ (List.mem_of_getElem? (i := 2) rfl))) (mvT hZ (hw _ (List.mem_of_getElem? (i := 3) rfl))) (mvT hZ (hw _ (List.mem_of_getElem? (i := 4) rfl))) (by decide) (backOf (W := 2) (rmP l Z a0 hw [] fl (1 : Int32) ib ie h28 n0 z32) hZ (hw _ (List.mem_of_getElem? (i := 4) rfl)) (hw _ (List.mem_of_getElem? (i := 3) rfl)) (by decide) (by decide)) (g := (mkF m 46 #[.val (.int ia), .val (.int ib), .val (.int ic), .val (.int id_), .val (.int ie), .val (.int fl), .val (.ref b1), .val (.ref b22), .unset, .unset, .unset, .unset, .unset, .unset, .unset, .unset, .unset, .unset] [(.int ie), (.int ib), (.int (1 : Int32)), (.int fl), (.int (1 : Int32)), (.ref b22)])) rfl (by rw [hml]; rfl) (argsL := [(.int fl), (.int (1 : Int32)), (.int ib), (.int ie)]) (rest := [(.int (1 : Int32)), (.ref b22)]) (lenOf pd_0 rfl) rfl (by show 2 * 0 + _ ≤ _; exact Nat.le_of_eq rfl) (hb hby at_46) (fun _ _ => ⟨rfl, e28, (by decide : 2 + 0 ≤ _), (by decide : 6 + 0 ≤ _)⟩)
  dsimp only [Pt.U, Pt.locs, Pt.cells, Pt.slots] at X34 l34 y34 z34 st34 hQ34
  replace X34 := own_cast X34 l34 y34 z34
  obtain ⟨hv34, N34q, e34⟩ := hQ34
  rw [hv34] at st34
  have N34 := Fr.app N33 N34q
  obtain ⟨r34, hr34⟩ : ∃ z : Int32, z = (own_pick fl (1 : Int32) ib ie) := ⟨_, rfl⟩
  rw [← hr34] at st34
  obtain ⟨clq35, Arq35, cq35, Sq35, nq35, Hq35, Gq35⟩ := id v29
  have hiq35 : ¬ ((1 : Int32) < 0 ∨ clq35.slots.size ≤ ((1 : Int32)).toNatClampNeg) := inb_of Sq35 ⟨by decide, by decide⟩
  obtain ⟨T36, h36, X36, e36, W36, st36⟩ := stI X34 hx hZ e34 Arq35 (j := (1 : Int32)) hiq35 (g := (mkF m 49 #[.val (.int ia), .val (.int ib), .val (.int ic), .val (.int id_), .val (.int ie), .val (.int fl), .val (.ref b1), .val (.ref b22), .unset, .unset, .unset, .unset, .unset, .unset, .unset, .unset, .unset, .unset] [(.int r34), (.int (1 : Int32)), (.ref b22)])) rfl rfl (hb hby at_49)
  have v37 : Arv Z h36 b22 k22 .int (3 : Int32) [(.int r26), (.int r34), (.int (0 : Int32))] (.int (0 : Int32)) := Arv.set Arq35 cq35 Sq35 nq35 Hq35 Gq35 rfl W36 1 rfl (Nat.le_of_ble_eq_true rfl)
  have f38 := f30.other W36 ne_b1_b22
  have kp39 := kp31.wr W36 (Or.inr sz_b22)
  have z40 := Nat.le_trans z32 (Keep.of_wr W36).1
  have N41 := Fr.snoc X36 N34 g_b22
  obtain ⟨_, _, ⟨T42, L42, k42, n42⟩, -, X42, ⟨Lc42, hQ42, l42, y42, z42⟩, st42⟩ := Jvm.LawKit.callS X36 hx (y := (⟨"com/example/makespun/makespun/planner/evolution/CandidateDistancePinLaw", "pick", "(IIII)I"⟩ : MethodName)) hown (mvT hZ (hw _ (List.mem_of_getElem? (i := 1) rfl))) (mvT hZ (hw _ (List.mem_of_getElem? (i := 2) rfl))) (mvT hZ (hw _ (List.mem_of_getElem? (i := 3) rfl))) (mvT hZ (hw _ (List.mem_of_getElem? (i := 4) rfl))) (by decide) (backOf (W := 2) (rmP l Z a0 hw [] fl (2 : Int32) ic id_ h36 n0 z40) hZ (hw _ (List.mem_of_getElem? (i := 4) rfl)) (hw _ (List.mem_of_getElem? (i := 3) rfl)) (by decide) (by decide)) (g := (mkF m 58 #[.val (.int ia), .val (.int ib), .val (.int ic), .val (.int id_), .val (.int ie), .val (.int fl), .val (.ref b1), .val (.ref b22), .unset, .unset, .unset, .unset, .unset, .unset, .unset, .unset, .unset, .unset] [(.int id_), (.int ic), (.int (2 : Int32)), (.int fl), (.int (2 : Int32)), (.ref b22)])) rfl (by rw [hml]; rfl) (argsL := [(.int fl), (.int (2 : Int32)), (.int ic), (.int id_)]) (rest := [(.int (2 : Int32)), (.ref b22)]) (lenOf pd_0 rfl) rfl (by show 2 * 0 + _ ≤ _; exact Nat.le_of_eq rfl) (hb hby at_58) (fun _ _ => ⟨rfl, e36, (by decide : 2 + 0 ≤ _), (by decide : 6 + 0 ≤ _)⟩)
  dsimp only [Pt.U, Pt.locs, Pt.cells, Pt.slots] at X42 l42 y42 z42 st42 hQ42
  replace X42 := own_cast X42 l42 y42 z42
  obtain ⟨hv42, N42q, e42⟩ := hQ42
  rw [hv42] at st42
  have N42 := Fr.app N41 N42q
  obtain ⟨r42, hr42⟩ : ∃ z : Int32, z = (own_pick fl (2 : Int32) ic id_) := ⟨_, rfl⟩
  rw [← hr42] at st42
  obtain ⟨clq43, Arq43, cq43, Sq43, nq43, Hq43, Gq43⟩ := id v37
  have hiq43 : ¬ ((2 : Int32) < 0 ∨ clq43.slots.size ≤ ((2 : Int32)).toNatClampNeg) := inb_of Sq43 ⟨by decide, by decide⟩
  obtain ⟨T44, h44, X44, e44, W44, st44⟩ := stI X42 hx hZ e42 Arq43 (j := (2 : Int32)) hiq43 (g := (mkF m 61 #[.val (.int ia), .val (.int ib), .val (.int ic), .val (.int id_), .val (.int ie), .val (.int fl), .val (.ref b1), .val (.ref b22), .unset, .unset, .unset, .unset, .unset, .unset, .unset, .unset, .unset, .unset] [(.int r42), (.int (2 : Int32)), (.ref b22)])) rfl rfl (hb hby at_61)
  have v45 : Arv Z h44 b22 k22 .int (3 : Int32) [(.int r26), (.int r34), (.int r42)] (.int (0 : Int32)) := Arv.set Arq43 cq43 Sq43 nq43 Hq43 Gq43 rfl W44 2 rfl (Nat.le_of_ble_eq_true rfl)
  have f46 := f38.other W44 ne_b1_b22
  have kp47 := kp39.wr W44 (Or.inr sz_b22)
  have z48 := Nat.le_trans z40 (Keep.of_wr W44).1
  have N49 := Fr.snoc X44 N42 g_b22
  obtain ⟨T50, h50, k50, X50, e50, E50, A50, st50⟩ := newP X44 hx hZ (hw _ (List.mem_of_getElem? (i := 0) rfl)) e44 (g := (mkF m 63 #[.val (.int ia), .val (.int ib), .val (.int ic), .val (.int id_), .val (.int ie), .val (.int fl), .val (.ref b1), .val (.ref b22), .unset, .unset, .unset, .unset, .unset, .unset, .unset, .unset, .unset, .unset] [(.int (2 : Int32))])) rfl (hb hby at_63) rfl (by decide) (cap := 2) (by decide) (by decide) (by decide) (by decide)
  obtain ⟨b50, g50⟩ : ∃ z, z = h44.size := ⟨_, rfl⟩
  rw [← g50] at A50 st50
  have ne_b1_b50 : b1 ≠ b50 := Nat.ne_of_lt (Nat.lt_of_lt_of_le f46.lt (Nat.le_of_eq g50.symm))
  have ne_b22_b50 : b22 ≠ b50 := Nat.ne_of_lt (Nat.lt_of_lt_of_le v45.lt (Nat.le_of_eq g50.symm))
  have g_b50 : n0 ≤ b50 := Nat.le_trans z48 (Nat.le_of_eq g50.symm)
  have sz_b50 : h0.size ≤ b50 := Nat.le_trans kp47.1 (Nat.le_of_eq g50.symm)
  have f51 := f46.ext E50
  have f52 := v45.ext E50
  have z53 := Nat.le_trans z48 E50.1
  have kp54 := kp47.ext E50
  have V_b50 : Arv Z h50 b50 k50 .int (2 : Int32) [(.int (0 : Int32)), (.int (0 : Int32))] (.int (0 : Int32)) := (Arv.new A50 (by decide)).pad (pad_rep [] (.int (0 : Int32)) 2)
  obtain ⟨clq55, Arq55, cq55, Sq55, nq55, Hq55, Gq55⟩ := id V_b50
  have hiq55 : ¬ ((0 : Int32) < 0 ∨ clq55.slots.size ≤ ((0 : Int32)).toNatClampNeg) := inb_of Sq55 ⟨by decide, by decide⟩
  obtain ⟨T56, h56, X56, e56, W56, st56⟩ := stI X50 hx hZ e50 Arq55 (j := (0 : Int32)) hiq55 (g := (mkF m 71 #[.val (.int ia), .val (.int ib), .val (.int ic), .val (.int id_), .val (.int ie), .val (.int fl), .val (.ref b1), .val (.ref b22), .val (.ref b50), .unset, .unset, .unset, .unset, .unset, .unset, .unset, .unset, .unset] [(.int ib), (.int (0 : Int32)), (.ref b50)])) rfl rfl (hb hby at_71)
  have v57 : Arv Z h56 b50 k50 .int (2 : Int32) [(.int ib), (.int (0 : Int32))] (.int (0 : Int32)) := Arv.set Arq55 cq55 Sq55 nq55 Hq55 Gq55 rfl W56 0 rfl (Nat.le_of_ble_eq_true rfl)
  have f58 := f51.other W56 ne_b1_b50
  have f59 := f52.other W56 ne_b22_b50
  have kp60 := kp54.wr W56 (Or.inr sz_b50)
  have z61 := Nat.le_trans z53 (Keep.of_wr W56).1
  have N62 := Fr.snoc X56 N49 g_b50
  obtain ⟨clq63, Arq63, cq63, Sq63, nq63, Hq63, Gq63⟩ := id v57
  have hiq63 : ¬ ((1 : Int32) < 0 ∨ clq63.slots.size ≤ ((1 : Int32)).toNatClampNeg) := inb_of Sq63 ⟨by decide, by decide⟩
  obtain ⟨T64, h64, X64, e64, W64, st64⟩ := stI X56 hx hZ e56 Arq63 (j := (1 : Int32)) hiq63 (g := (mkF m 76 #[.val (.int ia), .val (.int ib), .val (.int ic), .val (.int id_), .val (.int ie), .val (.int fl), .val (.ref b1), .val (.ref b22), .val (.ref b50), .unset, .unset, .unset, .unset, .unset, .unset, .unset, .unset, .unset] [(.int ic), (.int (1 : Int32)), (.ref b50)])) rfl rfl (hb hby at_76)
  have v65 : Arv Z h64 b50 k50 .int (2 : Int32) [(.int ib), (.int ic)] (.int (0 : Int32)) := Arv.set Arq63 cq63 Sq63 nq63 Hq63 Gq63 rfl W64 1 rfl (Nat.le_of_ble_eq_true rfl)
  have f66 := f58.other W64 ne_b1_b50
  have f67 := f59.other W64 ne_b22_b50
  have kp68 := kp60.wr W64 (Or.inr sz_b50)
  have z69 := Nat.le_trans z61 (Keep.of_wr W64).1
  have N70 := Fr.snoc X64 N62 g_b50
  obtain ⟨T71, h71, k71, X71, e71, E71, A71, st71⟩ := newP X64 hx hZ (hw _ (List.mem_of_getElem? (i := 0) rfl)) e64 (g := (mkF m 78 #[.val (.int ia), .val (.int ib), .val (.int ic), .val (.int id_), .val (.int ie), .val (.int fl), .val (.ref b1), .val (.ref b22), .val (.ref b50), .unset, .unset, .unset, .unset, .unset, .unset, .unset, .unset, .unset] [(.int (2 : Int32))])) rfl (hb hby at_78) rfl (by decide) (cap := 2) (by decide) (by decide) (by decide) (by decide)
  obtain ⟨b71, g71⟩ : ∃ z, z = h64.size := ⟨_, rfl⟩
  rw [← g71] at A71 st71
  have ne_b1_b71 : b1 ≠ b71 := Nat.ne_of_lt (Nat.lt_of_lt_of_le f66.lt (Nat.le_of_eq g71.symm))
  have ne_b22_b71 : b22 ≠ b71 := Nat.ne_of_lt (Nat.lt_of_lt_of_le f67.lt (Nat.le_of_eq g71.symm))
  have ne_b50_b71 : b50 ≠ b71 := Nat.ne_of_lt (Nat.lt_of_lt_of_le v65.lt (Nat.le_of_eq g71.symm))
  have g_b71 : n0 ≤ b71 := Nat.le_trans z69 (Nat.le_of_eq g71.symm)
  have sz_b71 : h0.size ≤ b71 := Nat.le_trans kp68.1 (Nat.le_of_eq g71.symm)
  have f72 := f66.ext E71
  have f73 := f67.ext E71
  have f74 := v65.ext E71
  have z75 := Nat.le_trans z69 E71.1
  have kp76 := kp68.ext E71
  have V_b71 : Arv Z h71 b71 k71 .int (2 : Int32) [(.int (0 : Int32)), (.int (0 : Int32))] (.int (0 : Int32)) := (Arv.new A71 (by decide)).pad (pad_rep [] (.int (0 : Int32)) 2)
  obtain ⟨_, _, ⟨T77, L77, k77, n77⟩, -, X77, ⟨Lc77, hQ77, l77, y77, z77⟩, st77⟩ := Jvm.LawKit.callS X71 hx (y := (⟨"com/example/makespun/makespun/planner/evolution/CandidateDistancePinLaw", "pick", "(IIII)I"⟩ : MethodName)) hown (mvT hZ (hw _ (List.mem_of_getElem? (i := 1) rfl))) (mvT hZ (hw _ (List.mem_of_getElem? (i := 2) rfl))) (mvT hZ (hw _ (List.mem_of_getElem? (i := 3) rfl))) (mvT hZ (hw _ (List.mem_of_getElem? (i := 4) rfl))) (by decide) (backOf (W := 2) (rmP l Z a0 hw [] fl (3 : Int32) ib ia h71 n0 z75) hZ (hw _ (List.mem_of_getElem? (i := 4) rfl)) (hw _ (List.mem_of_getElem? (i := 3) rfl)) (by decide) (by decide)) (g := (mkF m 90 #[.val (.int ia), .val (.int ib), .val (.int ic), .val (.int id_), .val (.int ie), .val (.int fl), .val (.ref b1), .val (.ref b22), .val (.ref b50), .val (.ref b71), .unset, .unset, .unset, .unset, .unset, .unset, .unset, .unset] [(.int ia), (.int ib), (.int (3 : Int32)), (.int fl), (.int (0 : Int32)), (.ref b71)])) rfl (by rw [hml]; rfl) (argsL := [(.int fl), (.int (3 : Int32)), (.int ib), (.int ia)]) (rest := [(.int (0 : Int32)), (.ref b71)]) (lenOf pd_0 rfl) rfl (by show 2 * 0 + _ ≤ _; exact Nat.le_of_eq rfl) (hb hby at_90) (fun _ _ => ⟨rfl, e71, (by decide : 4 + 0 ≤ _), (by decide : 10 + 0 ≤ _)⟩)
  dsimp only [Pt.U, Pt.locs, Pt.cells, Pt.slots] at X77 l77 y77 z77 st77 hQ77
  replace X77 := own_cast X77 l77 y77 z77
  obtain ⟨hv77, N77q, e77⟩ := hQ77
  rw [hv77] at st77
  have N77 := Fr.app N70 N77q
  obtain ⟨r77, hr77⟩ : ∃ z : Int32, z = (own_pick fl (3 : Int32) ib ia) := ⟨_, rfl⟩
  rw [← hr77] at st77
  obtain ⟨clq78, Arq78, cq78, Sq78, nq78, Hq78, Gq78⟩ := id V_b71
  have hiq78 : ¬ ((0 : Int32) < 0 ∨ clq78.slots.size ≤ ((0 : Int32)).toNatClampNeg) := inb_of Sq78 ⟨by decide, by decide⟩
  obtain ⟨T79, h79, X79, e79, W79, st79⟩ := stI X77 hx hZ e77 Arq78 (j := (0 : Int32)) hiq78 (g := (mkF m 93 #[.val (.int ia), .val (.int ib), .val (.int ic), .val (.int id_), .val (.int ie), .val (.int fl), .val (.ref b1), .val (.ref b22), .val (.ref b50), .val (.ref b71), .unset, .unset, .unset, .unset, .unset, .unset, .unset, .unset] [(.int r77), (.int (0 : Int32)), (.ref b71)])) rfl rfl (hb hby at_93)
  have v80 : Arv Z h79 b71 k71 .int (2 : Int32) [(.int r77), (.int (0 : Int32))] (.int (0 : Int32)) := Arv.set Arq78 cq78 Sq78 nq78 Hq78 Gq78 rfl W79 0 rfl (Nat.le_of_ble_eq_true rfl)
  have f81 := f72.other W79 ne_b1_b71
  have f82 := f73.other W79 ne_b22_b71
  have f83 := f74.other W79 ne_b50_b71
  have kp84 := kp76.wr W79 (Or.inr sz_b71)
  have z85 := Nat.le_trans z75 (Keep.of_wr W79).1
  have N86 := Fr.snoc X79 N77 g_b71
  obtain ⟨_, _, ⟨T87, L87, k87, n87⟩, -, X87, ⟨Lc87, hQ87, l87, y87, z87⟩, st87⟩ := Jvm.LawKit.callS X79 hx (y := (⟨"com/example/makespun/makespun/planner/evolution/CandidateDistancePinLaw", "pick", "(IIII)I"⟩ : MethodName)) hown (mvT hZ (hw _ (List.mem_of_getElem? (i := 1) rfl))) (mvT hZ (hw _ (List.mem_of_getElem? (i := 2) rfl))) (mvT hZ (hw _ (List.mem_of_getElem? (i := 3) rfl))) (mvT hZ (hw _ (List.mem_of_getElem? (i := 4) rfl))) (by decide) (backOf (W := 2) (rmP l Z a0 hw [] fl (4 : Int32) ic ie h79 n0 z85) hZ (hw _ (List.mem_of_getElem? (i := 4) rfl)) (hw _ (List.mem_of_getElem? (i := 3) rfl)) (by decide) (by decide)) (g := (mkF m 103 #[.val (.int ia), .val (.int ib), .val (.int ic), .val (.int id_), .val (.int ie), .val (.int fl), .val (.ref b1), .val (.ref b22), .val (.ref b50), .val (.ref b71), .unset, .unset, .unset, .unset, .unset, .unset, .unset, .unset] [(.int ie), (.int ic), (.int (4 : Int32)), (.int fl), (.int (1 : Int32)), (.ref b71)])) rfl (by rw [hml]; rfl) (argsL := [(.int fl), (.int (4 : Int32)), (.int ic), (.int ie)]) (rest := [(.int (1 : Int32)), (.ref b71)]) (lenOf pd_0 rfl) rfl (by show 2 * 0 + _ ≤ _; exact Nat.le_of_eq rfl) (hb hby at_103) (fun _ _ => ⟨rfl, e79, (by decide : 4 + 0 ≤ _), (by decide : 10 + 0 ≤ _)⟩)
  dsimp only [Pt.U, Pt.locs, Pt.cells, Pt.slots] at X87 l87 y87 z87 st87 hQ87
  replace X87 := own_cast X87 l87 y87 z87
  obtain ⟨hv87, N87q, e87⟩ := hQ87
  rw [hv87] at st87
  have N87 := Fr.app N86 N87q
  obtain ⟨r87, hr87⟩ : ∃ z : Int32, z = (own_pick fl (4 : Int32) ic ie) := ⟨_, rfl⟩
  rw [← hr87] at st87
  obtain ⟨clq88, Arq88, cq88, Sq88, nq88, Hq88, Gq88⟩ := id v80
  have hiq88 : ¬ ((1 : Int32) < 0 ∨ clq88.slots.size ≤ ((1 : Int32)).toNatClampNeg) := inb_of Sq88 ⟨by decide, by decide⟩
  obtain ⟨T89, h89, X89, e89, W89, st89⟩ := stI X87 hx hZ e87 Arq88 (j := (1 : Int32)) hiq88 (g := (mkF m 106 #[.val (.int ia), .val (.int ib), .val (.int ic), .val (.int id_), .val (.int ie), .val (.int fl), .val (.ref b1), .val (.ref b22), .val (.ref b50), .val (.ref b71), .unset, .unset, .unset, .unset, .unset, .unset, .unset, .unset] [(.int r87), (.int (1 : Int32)), (.ref b71)])) rfl rfl (hb hby at_106)
  have v90 : Arv Z h89 b71 k71 .int (2 : Int32) [(.int r77), (.int r87)] (.int (0 : Int32)) := Arv.set Arq88 cq88 Sq88 nq88 Hq88 Gq88 rfl W89 1 rfl (Nat.le_of_ble_eq_true rfl)
  have f91 := f81.other W89 ne_b1_b71
  have f92 := f82.other W89 ne_b22_b71
  have f93 := f83.other W89 ne_b50_b71
  have kp94 := kp84.wr W89 (Or.inr sz_b71)
  have z95 := Nat.le_trans z85 (Keep.of_wr W89).1
  have N96 := Fr.snoc X89 N87 g_b71
  have k97 : ∀ tq, Steps p.tables e below (T89.setTop (mkF m 113 #[.val (.int ia), .val (.int ib), .val (.int ic), .val (.int id_), .val (.int ie), .val (.int fl), .val (.ref b1), .val (.ref b22), .val (.ref b50), .val (.ref b71), .unset, .unset, .unset, .unset, .unset, .unset, .unset, .unset] [(.int (((fl.toUInt32 >>> ((5 : Int32) &&& 31).toUInt32).toInt32) &&& (1 : Int32)))])) tq → Steps p.tables e below (s₁.setTop (entryFrame m #[(.int ia), (.int ib), (.int ic), (.int id_), (.int ie), (.int fl)] maxLocals)) tq := by
    intro tq kt
    refine pre0 tq ?_
    show Steps p.tables e below (s₁.setTop (mkF m 0 #[.val (.int ia), .val (.int ib), .val (.int ic), .val (.int id_), .val (.int ie), .val (.int fl), .unset, .unset, .unset, .unset, .unset, .unset, .unset, .unset, .unset, .unset, .unset, .unset] [])) _
    refine XS.iconst X0.here hx rfl (hb hby at_0) ?_
    show Steps p.tables e below (s₁.setTop (mkF m 1 #[.val (.int ia), .val (.int ib), .val (.int ic), .val (.int id_), .val (.int ie), .val (.int fl), .unset, .unset, .unset, .unset, .unset, .unset, .unset, .unset, .unset, .unset, .unset, .unset] [(.int (3 : Int32))])) _
    refine st1 _ ?_
    show Steps p.tables e below (T1.setTop (mkF m 3 #[.val (.int ia), .val (.int ib), .val (.int ic), .val (.int id_), .val (.int ie), .val (.int fl), .unset, .unset, .unset, .unset, .unset, .unset, .unset, .unset, .unset, .unset, .unset, .unset] [(.ref b1)])) _
    refine XS.astore X1.here hx rfl (hb hby at_3) rfl rfl (l' := #[.val (.int ia), .val (.int ib), .val (.int ic), .val (.int id_), .val (.int ie), .val (.int fl), .val (.ref b1), .unset, .unset, .unset, .unset, .unset, .unset, .unset, .unset, .unset, .unset, .unset]) rfl ?_
    show Steps p.tables e below (T1.setTop (mkF m 5 #[.val (.int ia), .val (.int ib), .val (.int ic), .val (.int id_), .val (.int ie), .val (.int fl), .val (.ref b1), .unset, .unset, .unset, .unset, .unset, .unset, .unset, .unset, .unset, .unset, .unset] [])) _
    refine XS.aload X1.here hx rfl (hb hby at_5) rfl rfl ?_
    show Steps p.tables e below (T1.setTop (mkF m 7 #[.val (.int ia), .val (.int ib), .val (.int ic), .val (.int id_), .val (.int ie), .val (.int fl), .val (.ref b1), .unset, .unset, .unset, .unset, .unset, .unset, .unset, .unset, .unset, .unset, .unset] [(.ref b1)])) _
    refine XS.iconst X1.here hx rfl (hb hby at_7) ?_
    show Steps p.tables e below (T1.setTop (mkF m 8 #[.val (.int ia), .val (.int ib), .val (.int ic), .val (.int id_), .val (.int ie), .val (.int fl), .val (.ref b1), .unset, .unset, .unset, .unset, .unset, .unset, .unset, .unset, .unset, .unset, .unset] [(.int (0 : Int32)), (.ref b1)])) _
    refine XS.iloadN X1.here hx rfl (hb hby at_8) rfl ?_
    show Steps p.tables e below (T1.setTop (mkF m 9 #[.val (.int ia), .val (.int ib), .val (.int ic), .val (.int id_), .val (.int ie), .val (.int fl), .val (.ref b1), .unset, .unset, .unset, .unset, .unset, .unset, .unset, .unset, .unset, .unset, .unset] [(.int ia), (.int (0 : Int32)), (.ref b1)])) _
    refine st5 _ ?_
    show Steps p.tables e below (T5.setTop (mkF m 10 #[.val (.int ia), .val (.int ib), .val (.int ic), .val (.int id_), .val (.int ie), .val (.int fl), .val (.ref b1), .unset, .unset, .unset, .unset, .unset, .unset, .unset, .unset, .unset, .unset, .unset] [])) _
    refine XS.aload X5.here hx rfl (hb hby at_10) rfl rfl ?_
    show Steps p.tables e below (T5.setTop (mkF m 12 #[.val (.int ia), .val (.int ib), .val (.int ic), .val (.int id_), .val (.int ie), .val (.int fl), .val (.ref b1), .unset, .unset, .unset, .unset, .unset, .unset, .unset, .unset, .unset, .unset, .unset] [(.ref b1)])) _
    refine XS.iconst X5.here hx rfl (hb hby at_12) ?_
    show Steps p.tables e below (T5.setTop (mkF m 13 #[.val (.int ia), .val (.int ib), .val (.int ic), .val (.int id_), .val (.int ie), .val (.int fl), .val (.ref b1), .unset, .unset, .unset, .unset, .unset, .unset, .unset, .unset, .unset, .unset, .unset] [(.int (1 : Int32)), (.ref b1)])) _
    refine XS.iloadN X5.here hx rfl (hb hby at_13) rfl ?_
    show Steps p.tables e below (T5.setTop (mkF m 14 #[.val (.int ia), .val (.int ib), .val (.int ic), .val (.int id_), .val (.int ie), .val (.int fl), .val (.ref b1), .unset, .unset, .unset, .unset, .unset, .unset, .unset, .unset, .unset, .unset, .unset] [(.int ib), (.int (1 : Int32)), (.ref b1)])) _
    refine st11 _ ?_
    show Steps p.tables e below (T11.setTop (mkF m 15 #[.val (.int ia), .val (.int ib), .val (.int ic), .val (.int id_), .val (.int ie), .val (.int fl), .val (.ref b1), .unset, .unset, .unset, .unset, .unset, .unset, .unset, .unset, .unset, .unset, .unset] [])) _
    refine XS.aload X11.here hx rfl (hb hby at_15) rfl rfl ?_
    show Steps p.tables e below (T11.setTop (mkF m 17 #[.val (.int ia), .val (.int ib), .val (.int ic), .val (.int id_), .val (.int ie), .val (.int fl), .val (.ref b1), .unset, .unset, .unset, .unset, .unset, .unset, .unset, .unset, .unset, .unset, .unset] [(.ref b1)])) _
    refine XS.iconst X11.here hx rfl (hb hby at_17) ?_
    show Steps p.tables e below (T11.setTop (mkF m 18 #[.val (.int ia), .val (.int ib), .val (.int ic), .val (.int id_), .val (.int ie), .val (.int fl), .val (.ref b1), .unset, .unset, .unset, .unset, .unset, .unset, .unset, .unset, .unset, .unset, .unset] [(.int (2 : Int32)), (.ref b1)])) _
    refine XS.iloadN X11.here hx rfl (hb hby at_18) rfl ?_
    show Steps p.tables e below (T11.setTop (mkF m 19 #[.val (.int ia), .val (.int ib), .val (.int ic), .val (.int id_), .val (.int ie), .val (.int fl), .val (.ref b1), .unset, .unset, .unset, .unset, .unset, .unset, .unset, .unset, .unset, .unset, .unset] [(.int ic), (.int (2 : Int32)), (.ref b1)])) _
    refine st17 _ ?_
    show Steps p.tables e below (T17.setTop (mkF m 20 #[.val (.int ia), .val (.int ib), .val (.int ic), .val (.int id_), .val (.int ie), .val (.int fl), .val (.ref b1), .unset, .unset, .unset, .unset, .unset, .unset, .unset, .unset, .unset, .unset, .unset] [])) _
    refine XS.iconst X17.here hx rfl (hb hby at_20) ?_
    show Steps p.tables e below (T17.setTop (mkF m 21 #[.val (.int ia), .val (.int ib), .val (.int ic), .val (.int id_), .val (.int ie), .val (.int fl), .val (.ref b1), .unset, .unset, .unset, .unset, .unset, .unset, .unset, .unset, .unset, .unset, .unset] [(.int (3 : Int32))])) _
    refine st22 _ ?_
    show Steps p.tables e below (T22.setTop (mkF m 23 #[.val (.int ia), .val (.int ib), .val (.int ic), .val (.int id_), .val (.int ie), .val (.int fl), .val (.ref b1), .unset, .unset, .unset, .unset, .unset, .unset, .unset, .unset, .unset, .unset, .unset] [(.ref b22)])) _
    refine XS.astore X22.here hx rfl (hb hby at_23) rfl rfl (l' := #[.val (.int ia), .val (.int ib), .val (.int ic), .val (.int id_), .val (.int ie), .val (.int fl), .val (.ref b1), .val (.ref b22), .unset, .unset, .unset, .unset, .unset, .unset, .unset, .unset, .unset, .unset]) rfl ?_
    show Steps p.tables e below (T22.setTop (mkF m 25 #[.val (.int ia), .val (.int ib), .val (.int ic), .val (.int id_), .val (.int ie), .val (.int fl), .val (.ref b1), .val (.ref b22), .unset, .unset, .unset, .unset, .unset, .unset, .unset, .unset, .unset, .unset] [])) _
    refine XS.aload X22.here hx rfl (hb hby at_25) rfl rfl ?_
    show Steps p.tables e below (T22.setTop (mkF m 27 #[.val (.int ia), .val (.int ib), .val (.int ic), .val (.int id_), .val (.int ie), .val (.int fl), .val (.ref b1), .val (.ref b22), .unset, .unset, .unset, .unset, .unset, .unset, .unset, .unset, .unset, .unset] [(.ref b22)])) _
    refine XS.iconst X22.here hx rfl (hb hby at_27) ?_
    show Steps p.tables e below (T22.setTop (mkF m 28 #[.val (.int ia), .val (.int ib), .val (.int ic), .val (.int id_), .val (.int ie), .val (.int fl), .val (.ref b1), .val (.ref b22), .unset, .unset, .unset, .unset, .unset, .unset, .unset, .unset, .unset, .unset] [(.int (0 : Int32)), (.ref b22)])) _
    refine XS.iload X22.here hx rfl (hb hby at_28) rfl ?_
    show Steps p.tables e below (T22.setTop (mkF m 30 #[.val (.int ia), .val (.int ib), .val (.int ic), .val (.int id_), .val (.int ie), .val (.int fl), .val (.ref b1), .val (.ref b22), .unset, .unset, .unset, .unset, .unset, .unset, .unset, .unset, .unset, .unset] [(.int fl), (.int (0 : Int32)), (.ref b22)])) _
    refine XS.iconst X22.here hx rfl (hb hby at_30) ?_
    show Steps p.tables e below (T22.setTop (mkF m 31 #[.val (.int ia), .val (.int ib), .val (.int ic), .val (.int id_), .val (.int ie), .val (.int fl), .val (.ref b1), .val (.ref b22), .unset, .unset, .unset, .unset, .unset, .unset, .unset, .unset, .unset, .unset] [(.int (0 : Int32)), (.int fl), (.int (0 : Int32)), (.ref b22)])) _
    refine XS.iloadN X22.here hx rfl (hb hby at_31) rfl ?_
    show Steps p.tables e below (T22.setTop (mkF m 32 #[.val (.int ia), .val (.int ib), .val (.int ic), .val (.int id_), .val (.int ie), .val (.int fl), .val (.ref b1), .val (.ref b22), .unset, .unset, .unset, .unset, .unset, .unset, .unset, .unset, .unset, .unset] [(.int ia), (.int (0 : Int32)), (.int fl), (.int (0 : Int32)), (.ref b22)])) _
    refine XS.iloadN X22.here hx rfl (hb hby at_32) rfl ?_
    show Steps p.tables e below (T22.setTop (mkF m 33 #[.val (.int ia), .val (.int ib), .val (.int ic), .val (.int id_), .val (.int ie), .val (.int fl), .val (.ref b1), .val (.ref b22), .unset, .unset, .unset, .unset, .unset, .unset, .unset, .unset, .unset, .unset] [(.int id_), (.int ia), (.int (0 : Int32)), (.int fl), (.int (0 : Int32)), (.ref b22)])) _
    refine st26 _ ?_
    show Steps p.tables e below (T26.setTop (mkF m 36 #[.val (.int ia), .val (.int ib), .val (.int ic), .val (.int id_), .val (.int ie), .val (.int fl), .val (.ref b1), .val (.ref b22), .unset, .unset, .unset, .unset, .unset, .unset, .unset, .unset, .unset, .unset] [(.int r26), (.int (0 : Int32)), (.ref b22)])) _
    refine st28 _ ?_
    show Steps p.tables e below (T28.setTop (mkF m 37 #[.val (.int ia), .val (.int ib), .val (.int ic), .val (.int id_), .val (.int ie), .val (.int fl), .val (.ref b1), .val (.ref b22), .unset, .unset, .unset, .unset, .unset, .unset, .unset, .unset, .unset, .unset] [])) _
    refine XS.aload X28.here hx rfl (hb hby at_37) rfl rfl ?_
    show Steps p.tables e below (T28.setTop (mkF m 39 #[.val (.int ia), .val (.int ib), .val (.int ic), .val (.int id_), .val (.int ie), .val (.int fl), .val (.ref b1), .val (.ref b22), .unset, .unset, .unset, .unset, .unset, .unset, .unset, .unset, .unset, .unset] [(.ref b22)])) _
    refine XS.iconst X28.here hx rfl (hb hby at_39) ?_
    show Steps p.tables e below (T28.setTop (mkF m 40 #[.val (.int ia), .val (.int ib), .val (.int ic), .val (.int id_), .val (.int ie), .val (.int fl), .val (.ref b1), .val (.ref b22), .unset, .unset, .unset, .unset, .unset, .unset, .unset, .unset, .unset, .unset] [(.int (1 : Int32)), (.ref b22)])) _
    refine XS.iload X28.here hx rfl (hb hby at_40) rfl ?_
    show Steps p.tables e below (T28.setTop (mkF m 42 #[.val (.int ia), .val (.int ib), .val (.int ic), .val (.int id_), .val (.int ie), .val (.int fl), .val (.ref b1), .val (.ref b22), .unset, .unset, .unset, .unset, .unset, .unset, .unset, .unset, .unset, .unset] [(.int fl), (.int (1 : Int32)), (.ref b22)])) _
    refine XS.iconst X28.here hx rfl (hb hby at_42) ?_
    show Steps p.tables e below (T28.setTop (mkF m 43 #[.val (.int ia), .val (.int ib), .val (.int ic), .val (.int id_), .val (.int ie), .val (.int fl), .val (.ref b1), .val (.ref b22), .unset, .unset, .unset, .unset, .unset, .unset, .unset, .unset, .unset, .unset] [(.int (1 : Int32)), (.int fl), (.int (1 : Int32)), (.ref b22)])) _
    refine XS.iloadN X28.here hx rfl (hb hby at_43) rfl ?_
    show Steps p.tables e below (T28.setTop (mkF m 44 #[.val (.int ia), .val (.int ib), .val (.int ic), .val (.int id_), .val (.int ie), .val (.int fl), .val (.ref b1), .val (.ref b22), .unset, .unset, .unset, .unset, .unset, .unset, .unset, .unset, .unset, .unset] [(.int ib), (.int (1 : Int32)), (.int fl), (.int (1 : Int32)), (.ref b22)])) _
    refine XS.iload X28.here hx rfl (hb hby at_44) rfl ?_
    show Steps p.tables e below (T28.setTop (mkF m 46 #[.val (.int ia), .val (.int ib), .val (.int ic), .val (.int id_), .val (.int ie), .val (.int fl), .val (.ref b1), .val (.ref b22), .unset, .unset, .unset, .unset, .unset, .unset, .unset, .unset, .unset, .unset] [(.int ie), (.int ib), (.int (1 : Int32)), (.int fl), (.int (1 : Int32)), (.ref b22)])) _
    refine st34 _ ?_
    show Steps p.tables e below (T34.setTop (mkF m 49 #[.val (.int ia), .val (.int ib), .val (.int ic), .val (.int id_), .val (.int ie), .val (.int fl), .val (.ref b1), .val (.ref b22), .unset, .unset, .unset, .unset, .unset, .unset, .unset, .unset, .unset, .unset] [(.int r34), (.int (1 : Int32)), (.ref b22)])) _
    refine st36 _ ?_
    show Steps p.tables e below (T36.setTop (mkF m 50 #[.val (.int ia), .val (.int ib), .val (.int ic), .val (.int id_), .val (.int ie), .val (.int fl), .val (.ref b1), .val (.ref b22), .unset, .unset, .unset, .unset, .unset, .unset, .unset, .unset, .unset, .unset] [])) _
    refine XS.aload X36.here hx rfl (hb hby at_50) rfl rfl ?_
    show Steps p.tables e below (T36.setTop (mkF m 52 #[.val (.int ia), .val (.int ib), .val (.int ic), .val (.int id_), .val (.int ie), .val (.int fl), .val (.ref b1), .val (.ref b22), .unset, .unset, .unset, .unset, .unset, .unset, .unset, .unset, .unset, .unset] [(.ref b22)])) _
    refine XS.iconst X36.here hx rfl (hb hby at_52) ?_
    show Steps p.tables e below (T36.setTop (mkF m 53 #[.val (.int ia), .val (.int ib), .val (.int ic), .val (.int id_), .val (.int ie), .val (.int fl), .val (.ref b1), .val (.ref b22), .unset, .unset, .unset, .unset, .unset, .unset, .unset, .unset, .unset, .unset] [(.int (2 : Int32)), (.ref b22)])) _
    refine XS.iload X36.here hx rfl (hb hby at_53) rfl ?_
    show Steps p.tables e below (T36.setTop (mkF m 55 #[.val (.int ia), .val (.int ib), .val (.int ic), .val (.int id_), .val (.int ie), .val (.int fl), .val (.ref b1), .val (.ref b22), .unset, .unset, .unset, .unset, .unset, .unset, .unset, .unset, .unset, .unset] [(.int fl), (.int (2 : Int32)), (.ref b22)])) _
    refine XS.iconst X36.here hx rfl (hb hby at_55) ?_
    show Steps p.tables e below (T36.setTop (mkF m 56 #[.val (.int ia), .val (.int ib), .val (.int ic), .val (.int id_), .val (.int ie), .val (.int fl), .val (.ref b1), .val (.ref b22), .unset, .unset, .unset, .unset, .unset, .unset, .unset, .unset, .unset, .unset] [(.int (2 : Int32)), (.int fl), (.int (2 : Int32)), (.ref b22)])) _
    refine XS.iloadN X36.here hx rfl (hb hby at_56) rfl ?_
    show Steps p.tables e below (T36.setTop (mkF m 57 #[.val (.int ia), .val (.int ib), .val (.int ic), .val (.int id_), .val (.int ie), .val (.int fl), .val (.ref b1), .val (.ref b22), .unset, .unset, .unset, .unset, .unset, .unset, .unset, .unset, .unset, .unset] [(.int ic), (.int (2 : Int32)), (.int fl), (.int (2 : Int32)), (.ref b22)])) _
    refine XS.iloadN X36.here hx rfl (hb hby at_57) rfl ?_
    show Steps p.tables e below (T36.setTop (mkF m 58 #[.val (.int ia), .val (.int ib), .val (.int ic), .val (.int id_), .val (.int ie), .val (.int fl), .val (.ref b1), .val (.ref b22), .unset, .unset, .unset, .unset, .unset, .unset, .unset, .unset, .unset, .unset] [(.int id_), (.int ic), (.int (2 : Int32)), (.int fl), (.int (2 : Int32)), (.ref b22)])) _
    refine st42 _ ?_
    show Steps p.tables e below (T42.setTop (mkF m 61 #[.val (.int ia), .val (.int ib), .val (.int ic), .val (.int id_), .val (.int ie), .val (.int fl), .val (.ref b1), .val (.ref b22), .unset, .unset, .unset, .unset, .unset, .unset, .unset, .unset, .unset, .unset] [(.int r42), (.int (2 : Int32)), (.ref b22)])) _
    refine st44 _ ?_
    show Steps p.tables e below (T44.setTop (mkF m 62 #[.val (.int ia), .val (.int ib), .val (.int ic), .val (.int id_), .val (.int ie), .val (.int fl), .val (.ref b1), .val (.ref b22), .unset, .unset, .unset, .unset, .unset, .unset, .unset, .unset, .unset, .unset] [])) _
    refine XS.iconst X44.here hx rfl (hb hby at_62) ?_
    show Steps p.tables e below (T44.setTop (mkF m 63 #[.val (.int ia), .val (.int ib), .val (.int ic), .val (.int id_), .val (.int ie), .val (.int fl), .val (.ref b1), .val (.ref b22), .unset, .unset, .unset, .unset, .unset, .unset, .unset, .unset, .unset, .unset] [(.int (2 : Int32))])) _
    refine st50 _ ?_
    show Steps p.tables e below (T50.setTop (mkF m 65 #[.val (.int ia), .val (.int ib), .val (.int ic), .val (.int id_), .val (.int ie), .val (.int fl), .val (.ref b1), .val (.ref b22), .unset, .unset, .unset, .unset, .unset, .unset, .unset, .unset, .unset, .unset] [(.ref b50)])) _
    refine XS.astore X50.here hx rfl (hb hby at_65) rfl rfl (l' := #[.val (.int ia), .val (.int ib), .val (.int ic), .val (.int id_), .val (.int ie), .val (.int fl), .val (.ref b1), .val (.ref b22), .val (.ref b50), .unset, .unset, .unset, .unset, .unset, .unset, .unset, .unset, .unset]) rfl ?_
    show Steps p.tables e below (T50.setTop (mkF m 67 #[.val (.int ia), .val (.int ib), .val (.int ic), .val (.int id_), .val (.int ie), .val (.int fl), .val (.ref b1), .val (.ref b22), .val (.ref b50), .unset, .unset, .unset, .unset, .unset, .unset, .unset, .unset, .unset] [])) _
    refine XS.aload X50.here hx rfl (hb hby at_67) rfl rfl ?_
    show Steps p.tables e below (T50.setTop (mkF m 69 #[.val (.int ia), .val (.int ib), .val (.int ic), .val (.int id_), .val (.int ie), .val (.int fl), .val (.ref b1), .val (.ref b22), .val (.ref b50), .unset, .unset, .unset, .unset, .unset, .unset, .unset, .unset, .unset] [(.ref b50)])) _
    refine XS.iconst X50.here hx rfl (hb hby at_69) ?_
    show Steps p.tables e below (T50.setTop (mkF m 70 #[.val (.int ia), .val (.int ib), .val (.int ic), .val (.int id_), .val (.int ie), .val (.int fl), .val (.ref b1), .val (.ref b22), .val (.ref b50), .unset, .unset, .unset, .unset, .unset, .unset, .unset, .unset, .unset] [(.int (0 : Int32)), (.ref b50)])) _
    refine XS.iloadN X50.here hx rfl (hb hby at_70) rfl ?_
    show Steps p.tables e below (T50.setTop (mkF m 71 #[.val (.int ia), .val (.int ib), .val (.int ic), .val (.int id_), .val (.int ie), .val (.int fl), .val (.ref b1), .val (.ref b22), .val (.ref b50), .unset, .unset, .unset, .unset, .unset, .unset, .unset, .unset, .unset] [(.int ib), (.int (0 : Int32)), (.ref b50)])) _
    refine st56 _ ?_
    show Steps p.tables e below (T56.setTop (mkF m 72 #[.val (.int ia), .val (.int ib), .val (.int ic), .val (.int id_), .val (.int ie), .val (.int fl), .val (.ref b1), .val (.ref b22), .val (.ref b50), .unset, .unset, .unset, .unset, .unset, .unset, .unset, .unset, .unset] [])) _
    refine XS.aload X56.here hx rfl (hb hby at_72) rfl rfl ?_
    show Steps p.tables e below (T56.setTop (mkF m 74 #[.val (.int ia), .val (.int ib), .val (.int ic), .val (.int id_), .val (.int ie), .val (.int fl), .val (.ref b1), .val (.ref b22), .val (.ref b50), .unset, .unset, .unset, .unset, .unset, .unset, .unset, .unset, .unset] [(.ref b50)])) _
    refine XS.iconst X56.here hx rfl (hb hby at_74) ?_
    show Steps p.tables e below (T56.setTop (mkF m 75 #[.val (.int ia), .val (.int ib), .val (.int ic), .val (.int id_), .val (.int ie), .val (.int fl), .val (.ref b1), .val (.ref b22), .val (.ref b50), .unset, .unset, .unset, .unset, .unset, .unset, .unset, .unset, .unset] [(.int (1 : Int32)), (.ref b50)])) _
    refine XS.iloadN X56.here hx rfl (hb hby at_75) rfl ?_
    show Steps p.tables e below (T56.setTop (mkF m 76 #[.val (.int ia), .val (.int ib), .val (.int ic), .val (.int id_), .val (.int ie), .val (.int fl), .val (.ref b1), .val (.ref b22), .val (.ref b50), .unset, .unset, .unset, .unset, .unset, .unset, .unset, .unset, .unset] [(.int ic), (.int (1 : Int32)), (.ref b50)])) _
    refine st64 _ ?_
    show Steps p.tables e below (T64.setTop (mkF m 77 #[.val (.int ia), .val (.int ib), .val (.int ic), .val (.int id_), .val (.int ie), .val (.int fl), .val (.ref b1), .val (.ref b22), .val (.ref b50), .unset, .unset, .unset, .unset, .unset, .unset, .unset, .unset, .unset] [])) _
    refine XS.iconst X64.here hx rfl (hb hby at_77) ?_
    show Steps p.tables e below (T64.setTop (mkF m 78 #[.val (.int ia), .val (.int ib), .val (.int ic), .val (.int id_), .val (.int ie), .val (.int fl), .val (.ref b1), .val (.ref b22), .val (.ref b50), .unset, .unset, .unset, .unset, .unset, .unset, .unset, .unset, .unset] [(.int (2 : Int32))])) _
    refine st71 _ ?_
    show Steps p.tables e below (T71.setTop (mkF m 80 #[.val (.int ia), .val (.int ib), .val (.int ic), .val (.int id_), .val (.int ie), .val (.int fl), .val (.ref b1), .val (.ref b22), .val (.ref b50), .unset, .unset, .unset, .unset, .unset, .unset, .unset, .unset, .unset] [(.ref b71)])) _
    refine XS.astore X71.here hx rfl (hb hby at_80) rfl rfl (l' := #[.val (.int ia), .val (.int ib), .val (.int ic), .val (.int id_), .val (.int ie), .val (.int fl), .val (.ref b1), .val (.ref b22), .val (.ref b50), .val (.ref b71), .unset, .unset, .unset, .unset, .unset, .unset, .unset, .unset]) rfl ?_
    show Steps p.tables e below (T71.setTop (mkF m 82 #[.val (.int ia), .val (.int ib), .val (.int ic), .val (.int id_), .val (.int ie), .val (.int fl), .val (.ref b1), .val (.ref b22), .val (.ref b50), .val (.ref b71), .unset, .unset, .unset, .unset, .unset, .unset, .unset, .unset] [])) _
    refine XS.aload X71.here hx rfl (hb hby at_82) rfl rfl ?_
    show Steps p.tables e below (T71.setTop (mkF m 84 #[.val (.int ia), .val (.int ib), .val (.int ic), .val (.int id_), .val (.int ie), .val (.int fl), .val (.ref b1), .val (.ref b22), .val (.ref b50), .val (.ref b71), .unset, .unset, .unset, .unset, .unset, .unset, .unset, .unset] [(.ref b71)])) _
    refine XS.iconst X71.here hx rfl (hb hby at_84) ?_
    show Steps p.tables e below (T71.setTop (mkF m 85 #[.val (.int ia), .val (.int ib), .val (.int ic), .val (.int id_), .val (.int ie), .val (.int fl), .val (.ref b1), .val (.ref b22), .val (.ref b50), .val (.ref b71), .unset, .unset, .unset, .unset, .unset, .unset, .unset, .unset] [(.int (0 : Int32)), (.ref b71)])) _
    refine XS.iload X71.here hx rfl (hb hby at_85) rfl ?_
    show Steps p.tables e below (T71.setTop (mkF m 87 #[.val (.int ia), .val (.int ib), .val (.int ic), .val (.int id_), .val (.int ie), .val (.int fl), .val (.ref b1), .val (.ref b22), .val (.ref b50), .val (.ref b71), .unset, .unset, .unset, .unset, .unset, .unset, .unset, .unset] [(.int fl), (.int (0 : Int32)), (.ref b71)])) _
    refine XS.iconst X71.here hx rfl (hb hby at_87) ?_
    show Steps p.tables e below (T71.setTop (mkF m 88 #[.val (.int ia), .val (.int ib), .val (.int ic), .val (.int id_), .val (.int ie), .val (.int fl), .val (.ref b1), .val (.ref b22), .val (.ref b50), .val (.ref b71), .unset, .unset, .unset, .unset, .unset, .unset, .unset, .unset] [(.int (3 : Int32)), (.int fl), (.int (0 : Int32)), (.ref b71)])) _
    refine XS.iloadN X71.here hx rfl (hb hby at_88) rfl ?_
    show Steps p.tables e below (T71.setTop (mkF m 89 #[.val (.int ia), .val (.int ib), .val (.int ic), .val (.int id_), .val (.int ie), .val (.int fl), .val (.ref b1), .val (.ref b22), .val (.ref b50), .val (.ref b71), .unset, .unset, .unset, .unset, .unset, .unset, .unset, .unset] [(.int ib), (.int (3 : Int32)), (.int fl), (.int (0 : Int32)), (.ref b71)])) _
    refine XS.iloadN X71.here hx rfl (hb hby at_89) rfl ?_
    show Steps p.tables e below (T71.setTop (mkF m 90 #[.val (.int ia), .val (.int ib), .val (.int ic), .val (.int id_), .val (.int ie), .val (.int fl), .val (.ref b1), .val (.ref b22), .val (.ref b50), .val (.ref b71), .unset, .unset, .unset, .unset, .unset, .unset, .unset, .unset] [(.int ia), (.int ib), (.int (3 : Int32)), (.int fl), (.int (0 : Int32)), (.ref b71)])) _
    refine st77 _ ?_
    show Steps p.tables e below (T77.setTop (mkF m 93 #[.val (.int ia), .val (.int ib), .val (.int ic), .val (.int id_), .val (.int ie), .val (.int fl), .val (.ref b1), .val (.ref b22), .val (.ref b50), .val (.ref b71), .unset, .unset, .unset, .unset, .unset, .unset, .unset, .unset] [(.int r77), (.int (0 : Int32)), (.ref b71)])) _
    refine st79 _ ?_
    show Steps p.tables e below (T79.setTop (mkF m 94 #[.val (.int ia), .val (.int ib), .val (.int ic), .val (.int id_), .val (.int ie), .val (.int fl), .val (.ref b1), .val (.ref b22), .val (.ref b50), .val (.ref b71), .unset, .unset, .unset, .unset, .unset, .unset, .unset, .unset] [])) _
    refine XS.aload X79.here hx rfl (hb hby at_94) rfl rfl ?_
    show Steps p.tables e below (T79.setTop (mkF m 96 #[.val (.int ia), .val (.int ib), .val (.int ic), .val (.int id_), .val (.int ie), .val (.int fl), .val (.ref b1), .val (.ref b22), .val (.ref b50), .val (.ref b71), .unset, .unset, .unset, .unset, .unset, .unset, .unset, .unset] [(.ref b71)])) _
    refine XS.iconst X79.here hx rfl (hb hby at_96) ?_
    show Steps p.tables e below (T79.setTop (mkF m 97 #[.val (.int ia), .val (.int ib), .val (.int ic), .val (.int id_), .val (.int ie), .val (.int fl), .val (.ref b1), .val (.ref b22), .val (.ref b50), .val (.ref b71), .unset, .unset, .unset, .unset, .unset, .unset, .unset, .unset] [(.int (1 : Int32)), (.ref b71)])) _
    refine XS.iload X79.here hx rfl (hb hby at_97) rfl ?_
    show Steps p.tables e below (T79.setTop (mkF m 99 #[.val (.int ia), .val (.int ib), .val (.int ic), .val (.int id_), .val (.int ie), .val (.int fl), .val (.ref b1), .val (.ref b22), .val (.ref b50), .val (.ref b71), .unset, .unset, .unset, .unset, .unset, .unset, .unset, .unset] [(.int fl), (.int (1 : Int32)), (.ref b71)])) _
    refine XS.iconst X79.here hx rfl (hb hby at_99) ?_
    show Steps p.tables e below (T79.setTop (mkF m 100 #[.val (.int ia), .val (.int ib), .val (.int ic), .val (.int id_), .val (.int ie), .val (.int fl), .val (.ref b1), .val (.ref b22), .val (.ref b50), .val (.ref b71), .unset, .unset, .unset, .unset, .unset, .unset, .unset, .unset] [(.int (4 : Int32)), (.int fl), (.int (1 : Int32)), (.ref b71)])) _
    refine XS.iloadN X79.here hx rfl (hb hby at_100) rfl ?_
    show Steps p.tables e below (T79.setTop (mkF m 101 #[.val (.int ia), .val (.int ib), .val (.int ic), .val (.int id_), .val (.int ie), .val (.int fl), .val (.ref b1), .val (.ref b22), .val (.ref b50), .val (.ref b71), .unset, .unset, .unset, .unset, .unset, .unset, .unset, .unset] [(.int ic), (.int (4 : Int32)), (.int fl), (.int (1 : Int32)), (.ref b71)])) _
    refine XS.iload X79.here hx rfl (hb hby at_101) rfl ?_
    show Steps p.tables e below (T79.setTop (mkF m 103 #[.val (.int ia), .val (.int ib), .val (.int ic), .val (.int id_), .val (.int ie), .val (.int fl), .val (.ref b1), .val (.ref b22), .val (.ref b50), .val (.ref b71), .unset, .unset, .unset, .unset, .unset, .unset, .unset, .unset] [(.int ie), (.int ic), (.int (4 : Int32)), (.int fl), (.int (1 : Int32)), (.ref b71)])) _
    refine st87 _ ?_
    show Steps p.tables e below (T87.setTop (mkF m 106 #[.val (.int ia), .val (.int ib), .val (.int ic), .val (.int id_), .val (.int ie), .val (.int fl), .val (.ref b1), .val (.ref b22), .val (.ref b50), .val (.ref b71), .unset, .unset, .unset, .unset, .unset, .unset, .unset, .unset] [(.int r87), (.int (1 : Int32)), (.ref b71)])) _
    refine st89 _ ?_
    show Steps p.tables e below (T89.setTop (mkF m 107 #[.val (.int ia), .val (.int ib), .val (.int ic), .val (.int id_), .val (.int ie), .val (.int fl), .val (.ref b1), .val (.ref b22), .val (.ref b50), .val (.ref b71), .unset, .unset, .unset, .unset, .unset, .unset, .unset, .unset] [])) _
    refine XS.iload X89.here hx rfl (hb hby at_107) rfl ?_
    show Steps p.tables e below (T89.setTop (mkF m 109 #[.val (.int ia), .val (.int ib), .val (.int ic), .val (.int id_), .val (.int ie), .val (.int fl), .val (.ref b1), .val (.ref b22), .val (.ref b50), .val (.ref b71), .unset, .unset, .unset, .unset, .unset, .unset, .unset, .unset] [(.int fl)])) _
    refine XS.iconst X89.here hx rfl (hb hby at_109) ?_
    show Steps p.tables e below (T89.setTop (mkF m 110 #[.val (.int ia), .val (.int ib), .val (.int ic), .val (.int id_), .val (.int ie), .val (.int fl), .val (.ref b1), .val (.ref b22), .val (.ref b50), .val (.ref b71), .unset, .unset, .unset, .unset, .unset, .unset, .unset, .unset] [(.int (5 : Int32)), (.int fl)])) _
    refine XS.iushr X89.here hx rfl (hb hby at_110) rfl ?_
    show Steps p.tables e below (T89.setTop (mkF m 111 #[.val (.int ia), .val (.int ib), .val (.int ic), .val (.int id_), .val (.int ie), .val (.int fl), .val (.ref b1), .val (.ref b22), .val (.ref b50), .val (.ref b71), .unset, .unset, .unset, .unset, .unset, .unset, .unset, .unset] [(.int ((fl.toUInt32 >>> ((5 : Int32) &&& 31).toUInt32).toInt32))])) _
    refine XS.iconst X89.here hx rfl (hb hby at_111) ?_
    show Steps p.tables e below (T89.setTop (mkF m 112 #[.val (.int ia), .val (.int ib), .val (.int ic), .val (.int id_), .val (.int ie), .val (.int fl), .val (.ref b1), .val (.ref b22), .val (.ref b50), .val (.ref b71), .unset, .unset, .unset, .unset, .unset, .unset, .unset, .unset] [(.int (1 : Int32)), (.int ((fl.toUInt32 >>> ((5 : Int32) &&& 31).toUInt32).toInt32))])) _
    refine XS.iand X89.here hx rfl (hb hby at_112) rfl ?_
    exact kt
  obtain ⟨v99, hv99⟩ : ∃ z : Int32, z = if (((fl.toUInt32 >>> ((5 : Int32) &&& 31).toUInt32).toInt32) &&& (1 : Int32)) = (0 : Int32) then (0 : Int32) else (1 : Int32) := ⟨_, rfl⟩
  have k100 : ∀ tq, Steps p.tables e below (T89.setTop (mkF m 121 #[.val (.int ia), .val (.int ib), .val (.int ic), .val (.int id_), .val (.int ie), .val (.int fl), .val (.ref b1), .val (.ref b22), .val (.ref b50), .val (.ref b71), .unset, .unset, .unset, .unset, .unset, .unset, .unset, .unset] [(.int v99)])) tq → Steps p.tables e below (s₁.setTop (entryFrame m #[(.int ia), (.int ib), (.int ic), (.int id_), (.int ie), (.int fl)] maxLocals)) tq := by
    intro tq kt
    by_cases hc98 : (((fl.toUInt32 >>> ((5 : Int32) &&& 31).toUInt32).toInt32) &&& (1 : Int32)) = (0 : Int32)
    · rw [if_pos hc98] at hv99
      rw [hv99] at kt
      refine k97 tq ?_
      show Steps p.tables e below (T89.setTop (mkF m 113 #[.val (.int ia), .val (.int ib), .val (.int ic), .val (.int id_), .val (.int ie), .val (.int fl), .val (.ref b1), .val (.ref b22), .val (.ref b50), .val (.ref b71), .unset, .unset, .unset, .unset, .unset, .unset, .unset, .unset] [(.int (((fl.toUInt32 >>> ((5 : Int32) &&& 31).toUInt32).toInt32) &&& (1 : Int32)))])) _
      refine XS.ifYes X89.here hx rfl (pc0 := 113) (pc' := 120) rfl (hb hby at_113) rfl ((if0 _ _).trans (teq hc98).1) (by decide) (by decide) ?_
      show Steps p.tables e below (T89.setTop (mkF m 120 #[.val (.int ia), .val (.int ib), .val (.int ic), .val (.int id_), .val (.int ie), .val (.int fl), .val (.ref b1), .val (.ref b22), .val (.ref b50), .val (.ref b71), .unset, .unset, .unset, .unset, .unset, .unset, .unset, .unset] [])) _
      refine XS.iconst X89.here hx rfl (hb hby at_120) ?_
      exact kt
    · rw [if_neg hc98] at hv99
      rw [hv99] at kt
      refine k97 tq ?_
      show Steps p.tables e below (T89.setTop (mkF m 113 #[.val (.int ia), .val (.int ib), .val (.int ic), .val (.int id_), .val (.int ie), .val (.int fl), .val (.ref b1), .val (.ref b22), .val (.ref b50), .val (.ref b71), .unset, .unset, .unset, .unset, .unset, .unset, .unset, .unset] [(.int (((fl.toUInt32 >>> ((5 : Int32) &&& 31).toUInt32).toInt32) &&& (1 : Int32)))])) _
      refine XS.ifNo X89.here hx rfl (hb hby at_113) rfl ((if0 _ _).trans (feq hc98).1) ?_
      show Steps p.tables e below (T89.setTop (mkF m 116 #[.val (.int ia), .val (.int ib), .val (.int ic), .val (.int id_), .val (.int ie), .val (.int fl), .val (.ref b1), .val (.ref b22), .val (.ref b50), .val (.ref b71), .unset, .unset, .unset, .unset, .unset, .unset, .unset, .unset] [])) _
      refine XS.iconst X89.here hx rfl (hb hby at_116) ?_
      show Steps p.tables e below (T89.setTop (mkF m 117 #[.val (.int ia), .val (.int ib), .val (.int ic), .val (.int id_), .val (.int ie), .val (.int fl), .val (.ref b1), .val (.ref b22), .val (.ref b50), .val (.ref b71), .unset, .unset, .unset, .unset, .unset, .unset, .unset, .unset] [(.int (1 : Int32))])) _
      refine XS.goto X89.here hx rfl (pc0 := 117) (pc' := 121) rfl (hb hby at_117) (by decide) (by decide) ?_
      exact kt
  have k101 : ∀ tq, Steps p.tables e below (T89.setTop (mkF m 130 #[.val (.int ia), .val (.int ib), .val (.int ic), .val (.int id_), .val (.int ie), .val (.int fl), .val (.ref b1), .val (.ref b22), .val (.ref b50), .val (.ref b71), .val (.int v99), .unset, .unset, .unset, .unset, .unset, .unset, .unset] [(.int (((fl.toUInt32 >>> ((6 : Int32) &&& 31).toUInt32).toInt32) &&& (1 : Int32)))])) tq → Steps p.tables e below (s₁.setTop (entryFrame m #[(.int ia), (.int ib), (.int ic), (.int id_), (.int ie), (.int fl)] maxLocals)) tq := by
    intro tq kt
    refine k100 tq ?_
    show Steps p.tables e below (T89.setTop (mkF m 121 #[.val (.int ia), .val (.int ib), .val (.int ic), .val (.int id_), .val (.int ie), .val (.int fl), .val (.ref b1), .val (.ref b22), .val (.ref b50), .val (.ref b71), .unset, .unset, .unset, .unset, .unset, .unset, .unset, .unset] [(.int v99)])) _
    refine XS.istore X89.here hx rfl (hb hby at_121) rfl (l' := #[.val (.int ia), .val (.int ib), .val (.int ic), .val (.int id_), .val (.int ie), .val (.int fl), .val (.ref b1), .val (.ref b22), .val (.ref b50), .val (.ref b71), .val (.int v99), .unset, .unset, .unset, .unset, .unset, .unset, .unset]) rfl ?_
    show Steps p.tables e below (T89.setTop (mkF m 123 #[.val (.int ia), .val (.int ib), .val (.int ic), .val (.int id_), .val (.int ie), .val (.int fl), .val (.ref b1), .val (.ref b22), .val (.ref b50), .val (.ref b71), .val (.int v99), .unset, .unset, .unset, .unset, .unset, .unset, .unset] [])) _
    refine XS.iload X89.here hx rfl (hb hby at_123) rfl ?_
    show Steps p.tables e below (T89.setTop (mkF m 125 #[.val (.int ia), .val (.int ib), .val (.int ic), .val (.int id_), .val (.int ie), .val (.int fl), .val (.ref b1), .val (.ref b22), .val (.ref b50), .val (.ref b71), .val (.int v99), .unset, .unset, .unset, .unset, .unset, .unset, .unset] [(.int fl)])) _
    refine XS.bipush X89.here hx rfl (hb hby at_125) ?_
    show Steps p.tables e below (T89.setTop (mkF m 127 #[.val (.int ia), .val (.int ib), .val (.int ic), .val (.int id_), .val (.int ie), .val (.int fl), .val (.ref b1), .val (.ref b22), .val (.ref b50), .val (.ref b71), .val (.int v99), .unset, .unset, .unset, .unset, .unset, .unset, .unset] [(.int (6 : Int32)), (.int fl)])) _
    refine XS.iushr X89.here hx rfl (hb hby at_127) rfl ?_
    show Steps p.tables e below (T89.setTop (mkF m 128 #[.val (.int ia), .val (.int ib), .val (.int ic), .val (.int id_), .val (.int ie), .val (.int fl), .val (.ref b1), .val (.ref b22), .val (.ref b50), .val (.ref b71), .val (.int v99), .unset, .unset, .unset, .unset, .unset, .unset, .unset] [(.int ((fl.toUInt32 >>> ((6 : Int32) &&& 31).toUInt32).toInt32))])) _
    refine XS.iconst X89.here hx rfl (hb hby at_128) ?_
    show Steps p.tables e below (T89.setTop (mkF m 129 #[.val (.int ia), .val (.int ib), .val (.int ic), .val (.int id_), .val (.int ie), .val (.int fl), .val (.ref b1), .val (.ref b22), .val (.ref b50), .val (.ref b71), .val (.int v99), .unset, .unset, .unset, .unset, .unset, .unset, .unset] [(.int (1 : Int32)), (.int ((fl.toUInt32 >>> ((6 : Int32) &&& 31).toUInt32).toInt32))])) _
    refine XS.iand X89.here hx rfl (hb hby at_129) rfl ?_
    exact kt
  obtain ⟨v103, hv103⟩ : ∃ z : Int32, z = if (((fl.toUInt32 >>> ((6 : Int32) &&& 31).toUInt32).toInt32) &&& (1 : Int32)) = (0 : Int32) then (0 : Int32) else (1 : Int32) := ⟨_, rfl⟩
  have k104 : ∀ tq, Steps p.tables e below (T89.setTop (mkF m 138 #[.val (.int ia), .val (.int ib), .val (.int ic), .val (.int id_), .val (.int ie), .val (.int fl), .val (.ref b1), .val (.ref b22), .val (.ref b50), .val (.ref b71), .val (.int v99), .unset, .unset, .unset, .unset, .unset, .unset, .unset] [(.int v103)])) tq → Steps p.tables e below (s₁.setTop (entryFrame m #[(.int ia), (.int ib), (.int ic), (.int id_), (.int ie), (.int fl)] maxLocals)) tq := by
    intro tq kt
    by_cases hc102 : (((fl.toUInt32 >>> ((6 : Int32) &&& 31).toUInt32).toInt32) &&& (1 : Int32)) = (0 : Int32)
    · rw [if_pos hc102] at hv103
      rw [hv103] at kt
      refine k101 tq ?_
      show Steps p.tables e below (T89.setTop (mkF m 130 #[.val (.int ia), .val (.int ib), .val (.int ic), .val (.int id_), .val (.int ie), .val (.int fl), .val (.ref b1), .val (.ref b22), .val (.ref b50), .val (.ref b71), .val (.int v99), .unset, .unset, .unset, .unset, .unset, .unset, .unset] [(.int (((fl.toUInt32 >>> ((6 : Int32) &&& 31).toUInt32).toInt32) &&& (1 : Int32)))])) _
      refine XS.ifYes X89.here hx rfl (pc0 := 130) (pc' := 137) rfl (hb hby at_130) rfl ((if0 _ _).trans (teq hc102).1) (by decide) (by decide) ?_
      show Steps p.tables e below (T89.setTop (mkF m 137 #[.val (.int ia), .val (.int ib), .val (.int ic), .val (.int id_), .val (.int ie), .val (.int fl), .val (.ref b1), .val (.ref b22), .val (.ref b50), .val (.ref b71), .val (.int v99), .unset, .unset, .unset, .unset, .unset, .unset, .unset] [])) _
      refine XS.iconst X89.here hx rfl (hb hby at_137) ?_
      exact kt
    · rw [if_neg hc102] at hv103
      rw [hv103] at kt
      refine k101 tq ?_
      show Steps p.tables e below (T89.setTop (mkF m 130 #[.val (.int ia), .val (.int ib), .val (.int ic), .val (.int id_), .val (.int ie), .val (.int fl), .val (.ref b1), .val (.ref b22), .val (.ref b50), .val (.ref b71), .val (.int v99), .unset, .unset, .unset, .unset, .unset, .unset, .unset] [(.int (((fl.toUInt32 >>> ((6 : Int32) &&& 31).toUInt32).toInt32) &&& (1 : Int32)))])) _
      refine XS.ifNo X89.here hx rfl (hb hby at_130) rfl ((if0 _ _).trans (feq hc102).1) ?_
      show Steps p.tables e below (T89.setTop (mkF m 133 #[.val (.int ia), .val (.int ib), .val (.int ic), .val (.int id_), .val (.int ie), .val (.int fl), .val (.ref b1), .val (.ref b22), .val (.ref b50), .val (.ref b71), .val (.int v99), .unset, .unset, .unset, .unset, .unset, .unset, .unset] [])) _
      refine XS.iconst X89.here hx rfl (hb hby at_133) ?_
      show Steps p.tables e below (T89.setTop (mkF m 134 #[.val (.int ia), .val (.int ib), .val (.int ic), .val (.int id_), .val (.int ie), .val (.int fl), .val (.ref b1), .val (.ref b22), .val (.ref b50), .val (.ref b71), .val (.int v99), .unset, .unset, .unset, .unset, .unset, .unset, .unset] [(.int (1 : Int32))])) _
      refine XS.goto X89.here hx rfl (pc0 := 134) (pc' := 138) rfl (hb hby at_134) (by decide) (by decide) ?_
      exact kt
  obtain ⟨T105, h105, X105, e105, E105, A105, D105, U105, st105⟩ := newO X89 hx hZ hown (hw _ (List.mem_of_getElem? (i := 5) rfl)) (hw _ (List.mem_of_getElem? (i := 6) rfl)) (hw _ (List.mem_of_getElem? (i := 7) rfl)) e89 (g := (mkF m 140 #[.val (.int ia), .val (.int ib), .val (.int ic), .val (.int id_), .val (.int ie), .val (.int fl), .val (.ref b1), .val (.ref b22), .val (.ref b50), .val (.ref b71), .val (.int v99), .val (.int v103), .unset, .unset, .unset, .unset, .unset, .unset] [])) rfl (hb hby at_140) (by decide) (by decide)
  obtain ⟨b105, g105⟩ : ∃ z, z = h89.size := ⟨_, rfl⟩
  rw [← g105] at A105 D105 U105 st105
  have ne_b1_b105 : b1 ≠ b105 := Nat.ne_of_lt (Nat.lt_of_lt_of_le f91.lt (Nat.le_of_eq g105.symm))
  have ne_b22_b105 : b22 ≠ b105 := Nat.ne_of_lt (Nat.lt_of_lt_of_le f92.lt (Nat.le_of_eq g105.symm))
  have ne_b50_b105 : b50 ≠ b105 := Nat.ne_of_lt (Nat.lt_of_lt_of_le f93.lt (Nat.le_of_eq g105.symm))
  have ne_b71_b105 : b71 ≠ b105 := Nat.ne_of_lt (Nat.lt_of_lt_of_le v90.lt (Nat.le_of_eq g105.symm))
  have g_b105 : n0 ≤ b105 := Nat.le_trans z95 (Nat.le_of_eq g105.symm)
  have sz_b105 : h0.size ≤ b105 := Nat.le_trans kp94.1 (Nat.le_of_eq g105.symm)
  have f106 := f91.ext E105
  have f107 := f92.ext E105
  have f108 := f93.ext E105
  have f109 := v90.ext E105
  have z110 := Nat.le_trans z95 E105.1
  have kp111 := kp94.ext E105
  have F_fitness_b105 : Fld Z h105 b105 "com/example/makespun/makespun/planner/evolution/Candidate" "fitness" "D" (.double (0 : UInt64)) := D105 (Or.inl (hw _ (List.mem_of_getElem? (i := 16) rfl))) (ty := .double) (by decide)
  have F_allocation_b105 : Fld Z h105 b105 "com/example/makespun/makespun/planner/evolution/Candidate" "allocation" "[I" .null := D105 (Or.inr (hw _ (List.mem_of_getElem? (i := 18) rfl))) (ty := (.array .int)) (by decide)
  have F_order_b105 : Fld Z h105 b105 "com/example/makespun/makespun/planner/evolution/Candidate" "order" "[I" .null := D105 (Or.inr (hw _ (List.mem_of_getElem? (i := 20) rfl))) (ty := (.array .int)) (by decide)
  have F_fits_b105 : Fld Z h105 b105 "com/example/makespun/makespun/planner/evolution/Candidate" "fits" "Z" (.int (0 : Int32)) := D105 (Or.inr (hw _ (List.mem_of_getElem? (i := 22) rfl))) (ty := .boolean) (by decide)
  obtain ⟨_, _, ⟨T112, L112, k112, n112⟩, -, X112, ⟨Lc112, hQ112, l112, y112, z112⟩, st112⟩ := X105.specialBack hx (y := (⟨"com/example/makespun/makespun/planner/evolution/Candidate", "<init>", "([I[IZ)V"⟩ : MethodName)) rfl hown (mvT hZ (hw _ (List.mem_of_getElem? (i := 8) rfl))) (mvT hZ (hw _ (List.mem_of_getElem? (i := 9) rfl))) (mvT hZ (hw _ (List.mem_of_getElem? (i := 10) rfl))) (by decide) (backOf (W := 1) (rmC l Z a0 hw [] b105 b1 b50 v99 h105 n0 z110 A105 F_fitness_b105 F_allocation_b105 F_order_b105 F_fits_b105 g_b105) hZ (hw _ (List.mem_of_getElem? (i := 10) rfl)) (hw _ (List.mem_of_getElem? (i := 7) rfl)) (by decide) (by decide)) (g := (mkF m 150 #[.val (.int ia), .val (.int ib), .val (.int ic), .val (.int id_), .val (.int ie), .val (.int fl), .val (.ref b1), .val (.ref b22), .val (.ref b50), .val (.ref b71), .val (.int v99), .val (.int v103), .unset, .unset, .unset, .unset, .unset, .unset] [(.int v99), (.ref b50), (.ref b1), (.ref b105), (.ref b105)])) rfl (by rw [hml]; rfl) (Steps.refl _) (a := b105) (argsL := [(.ref b1), (.ref b50), (.int v99)]) (rest := [(.ref b105)]) (lenOf pd_1 rfl) rfl (by show 2 * 0 + _ ≤ _; exact Nat.le_of_eq rfl) (hb hby at_150) (fun _ _ => ⟨rfl, e105, (by decide : 5 + 0 ≤ _), (by decide : 14 + 0 ≤ _)⟩)
  dsimp only [Pt.U, Pt.locs, Pt.cells, Pt.slots] at X112 l112 y112 z112 st112 hQ112
  replace X112 := own_cast X112 l112 y112 z112
  obtain ⟨hv112, N112q, K112, Eo112, Fa112, Fo112⟩ := hQ112
  rw [hv112] at st112
  have N112 := Fr.app N96 N112q
  have f113 := f106.keep K112 (ninS ne_b1_b105 nin0)
  have f114 := f107.keep K112 (ninS ne_b22_b105 nin0)
  have f115 := f108.keep K112 (ninS ne_b50_b105 nin0)
  have f116 := f109.keep K112 (ninS ne_b71_b105 nin0)
  have f117 := A105.keep K112
  have z118 := Nat.le_trans z110 K112.1
  have kp119 := Keep.trans kp111 K112 (allS (Or.inr sz_b105) all0)
  obtain ⟨T120, h120, X120, e120, E120, A120, D120, U120, st120⟩ := newO X112 hx hZ hown (hw _ (List.mem_of_getElem? (i := 5) rfl)) (hw _ (List.mem_of_getElem? (i := 6) rfl)) (hw _ (List.mem_of_getElem? (i := 7) rfl)) rfl (g := (mkF m 155 #[.val (.int ia), .val (.int ib), .val (.int ic), .val (.int id_), .val (.int ie), .val (.int fl), .val (.ref b1), .val (.ref b22), .val (.ref b50), .val (.ref b71), .val (.int v99), .val (.int v103), .val (.ref b105), .unset, .unset, .unset, .unset, .unset] [])) rfl (hb hby at_155) (by decide) (by decide)
  obtain ⟨b120, g120⟩ : ∃ z, z = T112.heap.size := ⟨_, rfl⟩
  rw [← g120] at A120 D120 U120 st120
  have ne_b1_b120 : b1 ≠ b120 := Nat.ne_of_lt (Nat.lt_of_lt_of_le f113.lt (Nat.le_of_eq g120.symm))
  have ne_b22_b120 : b22 ≠ b120 := Nat.ne_of_lt (Nat.lt_of_lt_of_le f114.lt (Nat.le_of_eq g120.symm))
  have ne_b50_b120 : b50 ≠ b120 := Nat.ne_of_lt (Nat.lt_of_lt_of_le f115.lt (Nat.le_of_eq g120.symm))
  have ne_b71_b120 : b71 ≠ b120 := Nat.ne_of_lt (Nat.lt_of_lt_of_le f116.lt (Nat.le_of_eq g120.symm))
  have ne_b105_b120 : b105 ≠ b120 := Nat.ne_of_lt (Nat.lt_of_lt_of_le Eo112.lt (Nat.le_of_eq g120.symm))
  have g_b120 : n0 ≤ b120 := Nat.le_trans z118 (Nat.le_of_eq g120.symm)
  have sz_b120 : h0.size ≤ b120 := Nat.le_trans kp119.1 (Nat.le_of_eq g120.symm)
  have f121 := f113.ext E120
  have f122 := f114.ext E120
  have f123 := f115.ext E120
  have f124 := f116.ext E120
  have f125 := Eo112.ext E120
  have f126 := Fa112.ext E120
  have f127 := Fo112.ext E120
  have z128 := Nat.le_trans z118 E120.1
  have kp129 := kp119.ext E120
  have F_fitness_b120 : Fld Z h120 b120 "com/example/makespun/makespun/planner/evolution/Candidate" "fitness" "D" (.double (0 : UInt64)) := D120 (Or.inl (hw _ (List.mem_of_getElem? (i := 16) rfl))) (ty := .double) (by decide)
  have F_allocation_b120 : Fld Z h120 b120 "com/example/makespun/makespun/planner/evolution/Candidate" "allocation" "[I" .null := D120 (Or.inr (hw _ (List.mem_of_getElem? (i := 18) rfl))) (ty := (.array .int)) (by decide)
  have F_order_b120 : Fld Z h120 b120 "com/example/makespun/makespun/planner/evolution/Candidate" "order" "[I" .null := D120 (Or.inr (hw _ (List.mem_of_getElem? (i := 20) rfl))) (ty := (.array .int)) (by decide)
  have F_fits_b120 : Fld Z h120 b120 "com/example/makespun/makespun/planner/evolution/Candidate" "fits" "Z" (.int (0 : Int32)) := D120 (Or.inr (hw _ (List.mem_of_getElem? (i := 22) rfl))) (ty := .boolean) (by decide)
  obtain ⟨_, _, ⟨T130, L130, k130, n130⟩, -, X130, ⟨Lc130, hQ130, l130, y130, z130⟩, st130⟩ := X120.specialBack hx (y := (⟨"com/example/makespun/makespun/planner/evolution/Candidate", "<init>", "([I[IZ)V"⟩ : MethodName)) rfl hown (mvT hZ (hw _ (List.mem_of_getElem? (i := 8) rfl))) (mvT hZ (hw _ (List.mem_of_getElem? (i := 9) rfl))) (mvT hZ (hw _ (List.mem_of_getElem? (i := 10) rfl))) (by decide) (backOf (W := 1) (rmC l Z a0 hw [] b120 b22 b71 v103 h120 n0 z128 A120 F_fitness_b120 F_allocation_b120 F_order_b120 F_fits_b120 g_b120) hZ (hw _ (List.mem_of_getElem? (i := 10) rfl)) (hw _ (List.mem_of_getElem? (i := 7) rfl)) (by decide) (by decide)) (g := (mkF m 165 #[.val (.int ia), .val (.int ib), .val (.int ic), .val (.int id_), .val (.int ie), .val (.int fl), .val (.ref b1), .val (.ref b22), .val (.ref b50), .val (.ref b71), .val (.int v99), .val (.int v103), .val (.ref b105), .unset, .unset, .unset, .unset, .unset] [(.int v103), (.ref b71), (.ref b22), (.ref b120), (.ref b120)])) rfl (by rw [hml]; rfl) (Steps.refl _) (a := b120) (argsL := [(.ref b22), (.ref b71), (.int v103)]) (rest := [(.ref b120)]) (lenOf pd_1 rfl) rfl (by show 2 * 0 + _ ≤ _; exact Nat.le_of_eq rfl) (hb hby at_165) (fun _ _ => ⟨rfl, e120, (by decide : 6 + 0 ≤ _), (by decide : 18 + 0 ≤ _)⟩)
  dsimp only [Pt.U, Pt.locs, Pt.cells, Pt.slots] at X130 l130 y130 z130 st130 hQ130
  replace X130 := own_cast X130 l130 y130 z130
  obtain ⟨hv130, N130q, K130, Eo130, Fa130, Fo130⟩ := hQ130
  rw [hv130] at st130
  have N130 := Fr.app N112 N130q
  have f131 := f121.keep K130 (ninS ne_b1_b120 nin0)
  have f132 := f122.keep K130 (ninS ne_b22_b120 nin0)
  have f133 := f123.keep K130 (ninS ne_b50_b120 nin0)
  have f134 := f124.keep K130 (ninS ne_b71_b120 nin0)
  have f135 := f125.keep K130
  have f136 := f126.keep K130 (ninS ne_b105_b120 nin0)
  have f137 := f127.keep K130 (ninS ne_b105_b120 nin0)
  have f138 := A120.keep K130
  have z139 := Nat.le_trans z128 K130.1
  have kp140 := Keep.trans kp129 K130 (allS (Or.inr sz_b120) all0)
  obtain ⟨clq141, Arq141, cq141, Sq141, nq141, Hq141, Gq141⟩ := id f131
  have hiq141 : ¬ ((0 : Int32) < 0 ∨ clq141.slots.size ≤ ((0 : Int32)).toNatClampNeg) := inb_of Sq141 ⟨by decide, by decide⟩
  have haq141 : clq141.slots[((0 : Int32)).toNatClampNeg]? = some (.int ia) := Hq141.at hiq141 rfl
  obtain ⟨clq142, Arq142, cq142, Sq142, nq142, Hq142, Gq142⟩ := id f132
  have hiq142 : ¬ ((0 : Int32) < 0 ∨ clq142.slots.size ≤ ((0 : Int32)).toNatClampNeg) := inb_of Sq142 ⟨by decide, by decide⟩
  have haq142 : clq142.slots[((0 : Int32)).toNatClampNeg]? = some (.int r26) := Hq142.at hiq142 rfl
  obtain ⟨_, _, ⟨T143, L143, k143, n143⟩, -, X143, ⟨Lc143, hQ143, l143, y143, z143⟩, st143⟩ := Jvm.LawKit.callS X130 hx (y := (⟨"com/example/makespun/makespun/planner/evolution/CandidateDistancePinLaw", "ne", "(II)I"⟩ : MethodName)) hown (mvT hZ (hw _ (List.mem_of_getElem? (i := 23) rfl))) (mvT hZ (hw _ (List.mem_of_getElem? (i := 24) rfl))) (mvT hZ (hw _ (List.mem_of_getElem? (i := 3) rfl))) (mvT hZ (hw _ (List.mem_of_getElem? (i := 25) rfl))) (by decide) (backOf (W := 0) (rmN l Z a0 hw [] ia r26 T130.heap n0 z139) hZ (hw _ (List.mem_of_getElem? (i := 25) rfl)) (hw _ (List.mem_of_getElem? (i := 3) rfl)) (by decide) (by decide)) (g := (mkF m 178 #[.val (.int ia), .val (.int ib), .val (.int ic), .val (.int id_), .val (.int ie), .val (.int fl), .val (.ref b1), .val (.ref b22), .val (.ref b50), .val (.ref b71), .val (.int v99), .val (.int v103), .val (.ref b105), .val (.ref b120), .unset, .unset, .unset, .unset] [(.int r26), (.int ia)])) rfl (by rw [hml]; rfl) (argsL := [(.int ia), (.int r26)]) (rest := []) (lenOf pd_3 rfl) rfl (by show 2 * 0 + _ ≤ _; exact Nat.le_of_eq rfl) (hb hby at_178) (fun _ _ => ⟨rfl, rfl, (by decide : 6 + 0 ≤ _), (by decide : 18 + 0 ≤ _)⟩)
  dsimp only [Pt.U, Pt.locs, Pt.cells, Pt.slots] at X143 l143 y143 z143 st143 hQ143
  replace X143 := own_cast X143 l143 y143 z143
  obtain ⟨hv143, N143q, e143⟩ := hQ143
  rw [hv143] at st143
  have N143 := Fr.app N130 N143q
  obtain ⟨r143, hr143⟩ : ∃ z : Int32, z = (own_ne ia r26) := ⟨_, rfl⟩
  rw [← hr143] at st143
  obtain ⟨clq144, Arq144, cq144, Sq144, nq144, Hq144, Gq144⟩ := id f131
  have hiq144 : ¬ ((1 : Int32) < 0 ∨ clq144.slots.size ≤ ((1 : Int32)).toNatClampNeg) := inb_of Sq144 ⟨by decide, by decide⟩
  have haq144 : clq144.slots[((1 : Int32)).toNatClampNeg]? = some (.int ib) := Hq144.at hiq144 rfl
  obtain ⟨clq145, Arq145, cq145, Sq145, nq145, Hq145, Gq145⟩ := id f132
  have hiq145 : ¬ ((1 : Int32) < 0 ∨ clq145.slots.size ≤ ((1 : Int32)).toNatClampNeg) := inb_of Sq145 ⟨by decide, by decide⟩
  have haq145 : clq145.slots[((1 : Int32)).toNatClampNeg]? = some (.int r34) := Hq145.at hiq145 rfl
  obtain ⟨_, _, ⟨T146, L146, k146, n146⟩, -, X146, ⟨Lc146, hQ146, l146, y146, z146⟩, st146⟩ := Jvm.LawKit.callS X143 hx (y := (⟨"com/example/makespun/makespun/planner/evolution/CandidateDistancePinLaw", "ne", "(II)I"⟩ : MethodName)) hown (mvT hZ (hw _ (List.mem_of_getElem? (i := 23) rfl))) (mvT hZ (hw _ (List.mem_of_getElem? (i := 24) rfl))) (mvT hZ (hw _ (List.mem_of_getElem? (i := 3) rfl))) (mvT hZ (hw _ (List.mem_of_getElem? (i := 25) rfl))) (by decide) (backOf (W := 1) (rmN l Z a0 hw [] ib r34 T130.heap n0 z139) hZ (hw _ (List.mem_of_getElem? (i := 25) rfl)) (hw _ (List.mem_of_getElem? (i := 3) rfl)) (by decide) (by decide)) (g := (mkF m 189 #[.val (.int ia), .val (.int ib), .val (.int ic), .val (.int id_), .val (.int ie), .val (.int fl), .val (.ref b1), .val (.ref b22), .val (.ref b50), .val (.ref b71), .val (.int v99), .val (.int v103), .val (.ref b105), .val (.ref b120), .unset, .unset, .unset, .unset] [(.int r34), (.int ib), (.int r143)])) rfl (by rw [hml]; rfl) (argsL := [(.int ib), (.int r34)]) (rest := [(.int r143)]) (lenOf pd_3 rfl) rfl (by show 2 * 0 + _ ≤ _; exact Nat.le_of_eq rfl) (hb hby at_189) (fun _ _ => ⟨rfl, e143, (by decide : 6 + 0 ≤ _), (by decide : 18 + 0 ≤ _)⟩)
  dsimp only [Pt.U, Pt.locs, Pt.cells, Pt.slots] at X146 l146 y146 z146 st146 hQ146
  replace X146 := own_cast X146 l146 y146 z146
  obtain ⟨hv146, N146q, e146⟩ := hQ146
  rw [hv146] at st146
  have N146 := Fr.app N143 N146q
  obtain ⟨r146, hr146⟩ : ∃ z : Int32, z = (own_ne ib r34) := ⟨_, rfl⟩
  rw [← hr146] at st146
  obtain ⟨clq147, Arq147, cq147, Sq147, nq147, Hq147, Gq147⟩ := id f131
  have hiq147 : ¬ ((2 : Int32) < 0 ∨ clq147.slots.size ≤ ((2 : Int32)).toNatClampNeg) := inb_of Sq147 ⟨by decide, by decide⟩
  have haq147 : clq147.slots[((2 : Int32)).toNatClampNeg]? = some (.int ic) := Hq147.at hiq147 rfl
  obtain ⟨clq148, Arq148, cq148, Sq148, nq148, Hq148, Gq148⟩ := id f132
  have hiq148 : ¬ ((2 : Int32) < 0 ∨ clq148.slots.size ≤ ((2 : Int32)).toNatClampNeg) := inb_of Sq148 ⟨by decide, by decide⟩
  have haq148 : clq148.slots[((2 : Int32)).toNatClampNeg]? = some (.int r42) := Hq148.at hiq148 rfl
  obtain ⟨_, _, ⟨T149, L149, k149, n149⟩, -, X149, ⟨Lc149, hQ149, l149, y149, z149⟩, st149⟩ := Jvm.LawKit.callS X146 hx (y := (⟨"com/example/makespun/makespun/planner/evolution/CandidateDistancePinLaw", "ne", "(II)I"⟩ : MethodName)) hown (mvT hZ (hw _ (List.mem_of_getElem? (i := 23) rfl))) (mvT hZ (hw _ (List.mem_of_getElem? (i := 24) rfl))) (mvT hZ (hw _ (List.mem_of_getElem? (i := 3) rfl))) (mvT hZ (hw _ (List.mem_of_getElem? (i := 25) rfl))) (by decide) (backOf (W := 1) (rmN l Z a0 hw [] ic r42 T130.heap n0 z139) hZ (hw _ (List.mem_of_getElem? (i := 25) rfl)) (hw _ (List.mem_of_getElem? (i := 3) rfl)) (by decide) (by decide)) (g := (mkF m 201 #[.val (.int ia), .val (.int ib), .val (.int ic), .val (.int id_), .val (.int ie), .val (.int fl), .val (.ref b1), .val (.ref b22), .val (.ref b50), .val (.ref b71), .val (.int v99), .val (.int v103), .val (.ref b105), .val (.ref b120), .unset, .unset, .unset, .unset] [(.int r42), (.int ic), (.int (r143 + r146))])) rfl (by rw [hml]; rfl) (argsL := [(.int ic), (.int r42)]) (rest := [(.int (r143 + r146))]) (lenOf pd_3 rfl) rfl (by show 2 * 0 + _ ≤ _; exact Nat.le_of_eq rfl) (hb hby at_201) (fun _ _ => ⟨rfl, e146, (by decide : 6 + 0 ≤ _), (by decide : 18 + 0 ≤ _)⟩)
  dsimp only [Pt.U, Pt.locs, Pt.cells, Pt.slots] at X149 l149 y149 z149 st149 hQ149
  replace X149 := own_cast X149 l149 y149 z149
  obtain ⟨hv149, N149q, e149⟩ := hQ149
  rw [hv149] at st149
  have N149 := Fr.app N146 N149q
  obtain ⟨r149, hr149⟩ : ∃ z : Int32, z = (own_ne ic r42) := ⟨_, rfl⟩
  rw [← hr149] at st149
  obtain ⟨clq150, Arq150, cq150, Sq150, nq150, Hq150, Gq150⟩ := id f133
  have hiq150 : ¬ ((0 : Int32) < 0 ∨ clq150.slots.size ≤ ((0 : Int32)).toNatClampNeg) := inb_of Sq150 ⟨by decide, by decide⟩
  have haq150 : clq150.slots[((0 : Int32)).toNatClampNeg]? = some (.int ib) := Hq150.at hiq150 rfl
  obtain ⟨clq151, Arq151, cq151, Sq151, nq151, Hq151, Gq151⟩ := id f134
  have hiq151 : ¬ ((0 : Int32) < 0 ∨ clq151.slots.size ≤ ((0 : Int32)).toNatClampNeg) := inb_of Sq151 ⟨by decide, by decide⟩
  have haq151 : clq151.slots[((0 : Int32)).toNatClampNeg]? = some (.int r77) := Hq151.at hiq151 rfl
  obtain ⟨_, _, ⟨T152, L152, k152, n152⟩, -, X152, ⟨Lc152, hQ152, l152, y152, z152⟩, st152⟩ := Jvm.LawKit.callS X149 hx (y := (⟨"com/example/makespun/makespun/planner/evolution/CandidateDistancePinLaw", "ne", "(II)I"⟩ : MethodName)) hown (mvT hZ (hw _ (List.mem_of_getElem? (i := 23) rfl))) (mvT hZ (hw _ (List.mem_of_getElem? (i := 24) rfl))) (mvT hZ (hw _ (List.mem_of_getElem? (i := 3) rfl))) (mvT hZ (hw _ (List.mem_of_getElem? (i := 25) rfl))) (by decide) (backOf (W := 1) (rmN l Z a0 hw [] ib r77 T130.heap n0 z139) hZ (hw _ (List.mem_of_getElem? (i := 25) rfl)) (hw _ (List.mem_of_getElem? (i := 3) rfl)) (by decide) (by decide)) (g := (mkF m 213 #[.val (.int ia), .val (.int ib), .val (.int ic), .val (.int id_), .val (.int ie), .val (.int fl), .val (.ref b1), .val (.ref b22), .val (.ref b50), .val (.ref b71), .val (.int v99), .val (.int v103), .val (.ref b105), .val (.ref b120), .unset, .unset, .unset, .unset] [(.int r77), (.int ib), (.int ((r143 + r146) + r149))])) rfl (by rw [hml]; rfl) (argsL := [(.int ib), (.int r77)]) (rest := [(.int ((r143 + r146) + r149))]) (lenOf pd_3 rfl) rfl (by show 2 * 0 + _ ≤ _; exact Nat.le_of_eq rfl) (hb hby at_213) (fun _ _ => ⟨rfl, e149, (by decide : 6 + 0 ≤ _), (by decide : 18 + 0 ≤ _)⟩)
  dsimp only [Pt.U, Pt.locs, Pt.cells, Pt.slots] at X152 l152 y152 z152 st152 hQ152
  replace X152 := own_cast X152 l152 y152 z152
  obtain ⟨hv152, N152q, e152⟩ := hQ152
  rw [hv152] at st152
  have N152 := Fr.app N149 N152q
  obtain ⟨r152, hr152⟩ : ∃ z : Int32, z = (own_ne ib r77) := ⟨_, rfl⟩
  rw [← hr152] at st152
  obtain ⟨clq153, Arq153, cq153, Sq153, nq153, Hq153, Gq153⟩ := id f133
  have hiq153 : ¬ ((1 : Int32) < 0 ∨ clq153.slots.size ≤ ((1 : Int32)).toNatClampNeg) := inb_of Sq153 ⟨by decide, by decide⟩
  have haq153 : clq153.slots[((1 : Int32)).toNatClampNeg]? = some (.int ic) := Hq153.at hiq153 rfl
  obtain ⟨clq154, Arq154, cq154, Sq154, nq154, Hq154, Gq154⟩ := id f134
  have hiq154 : ¬ ((1 : Int32) < 0 ∨ clq154.slots.size ≤ ((1 : Int32)).toNatClampNeg) := inb_of Sq154 ⟨by decide, by decide⟩
  have haq154 : clq154.slots[((1 : Int32)).toNatClampNeg]? = some (.int r87) := Hq154.at hiq154 rfl
  obtain ⟨_, _, ⟨T155, L155, k155, n155⟩, -, X155, ⟨Lc155, hQ155, l155, y155, z155⟩, st155⟩ := Jvm.LawKit.callS X152 hx (y := (⟨"com/example/makespun/makespun/planner/evolution/CandidateDistancePinLaw", "ne", "(II)I"⟩ : MethodName)) hown (mvT hZ (hw _ (List.mem_of_getElem? (i := 23) rfl))) (mvT hZ (hw _ (List.mem_of_getElem? (i := 24) rfl))) (mvT hZ (hw _ (List.mem_of_getElem? (i := 3) rfl))) (mvT hZ (hw _ (List.mem_of_getElem? (i := 25) rfl))) (by decide) (backOf (W := 1) (rmN l Z a0 hw [] ic r87 T130.heap n0 z139) hZ (hw _ (List.mem_of_getElem? (i := 25) rfl)) (hw _ (List.mem_of_getElem? (i := 3) rfl)) (by decide) (by decide)) (g := (mkF m 225 #[.val (.int ia), .val (.int ib), .val (.int ic), .val (.int id_), .val (.int ie), .val (.int fl), .val (.ref b1), .val (.ref b22), .val (.ref b50), .val (.ref b71), .val (.int v99), .val (.int v103), .val (.ref b105), .val (.ref b120), .unset, .unset, .unset, .unset] [(.int r87), (.int ic), (.int (((r143 + r146) + r149) + r152))])) rfl (by rw [hml]; rfl) (argsL := [(.int ic), (.int r87)]) (rest := [(.int (((r143 + r146) + r149) + r152))]) (lenOf pd_3 rfl) rfl (by show 2 * 0 + _ ≤ _; exact Nat.le_of_eq rfl) (hb hby at_225) (fun _ _ => ⟨rfl, e152, (by decide : 6 + 0 ≤ _), (by decide : 18 + 0 ≤ _)⟩)
  dsimp only [Pt.U, Pt.locs, Pt.cells, Pt.slots] at X155 l155 y155 z155 st155 hQ155
  replace X155 := own_cast X155 l155 y155 z155
  obtain ⟨hv155, N155q, e155⟩ := hQ155
  rw [hv155] at st155
  have N155 := Fr.app N152 N155q
  obtain ⟨r155, hr155⟩ : ∃ z : Int32, z = (own_ne ic r87) := ⟨_, rfl⟩
  rw [← hr155] at st155
  obtain ⟨cq156, kq156, q156a, q156b, q156c⟩ := isOf hZ e155 f135
  obtain ⟨_, _, ⟨T156, L156, k156, n156⟩, -, X156, ⟨Lc156, hQ156, l156, y156, z156⟩, st156⟩ := X155.virtualBack hx (y := (⟨"com/example/makespun/makespun/planner/evolution/Candidate", "distance", "(Lcom/example/makespun/makespun/planner/evolution/Candidate;)I"⟩ : MethodName)) (z := (⟨"com/example/makespun/makespun/planner/evolution/Candidate", "distance", "(Lcom/example/makespun/makespun/planner/evolution/Candidate;)I"⟩ : MethodName)) hown (mvT hZ (hw _ (List.mem_of_getElem? (i := 26) rfl))) (mvT hZ (hw _ (List.mem_of_getElem? (i := 27) rfl))) (notFace_of_selects (args := #[]) (mvT hZ (hw _ (List.mem_of_getElem? (i := 29) rfl)))) (mvT hZ (hw _ (List.mem_of_getElem? (i := 29) rfl))) (mvT hZ (hw _ (List.mem_of_getElem? (i := 28) rfl))) (by decide) (backOf (W := 0) (rmD l Z a0 hw [] b105 b120 b1 b50 b22 b71 k1 k50 k22 k71 ia ib ic r26 r34 r42 ib ic r77 r87 T130.heap n0 z139 f136 f137 Fa130 Fo130 f131 f133 f132 f134) hZ (hw _ (List.mem_of_getElem? (i := 30) rfl)) (hw _ (List.mem_of_getElem? (i := 7) rfl)) (by decide) (by decide)) q156a q156c (g := (mkF m 235 #[.val (.int ia), .val (.int ib), .val (.int ic), .val (.int id_), .val (.int ie), .val (.int fl), .val (.ref b1), .val (.ref b22), .val (.ref b50), .val (.ref b71), .val (.int v99), .val (.int v103), .val (.ref b105), .val (.ref b120), .val (.int ((((r143 + r146) + r149) + r152) + r155)), .unset, .unset, .unset] [(.ref b120), (.ref b105)])) rfl (by rw [hml]; rfl) (Steps.refl _) (argsL := [(.ref b120)]) (rest := []) (lenOf pd_4 rfl) rfl (by show 2 * 0 + _ ≤ _; exact Nat.le_of_eq rfl) (hb hby at_235) (fun _ _ => ⟨rfl, e155, (by decide : 6 + 0 ≤ _), (by decide : 18 + 0 ≤ _)⟩)
  dsimp only [Pt.U, Pt.locs, Pt.cells, Pt.slots] at X156 l156 y156 z156 st156 hQ156
  replace X156 := own_cast X156 l156 y156 z156
  obtain ⟨hv156, N156q, e156⟩ := hQ156
  rw [hv156] at st156
  have N156 := Fr.app N155 N156q
  obtain ⟨r156, hr156⟩ : ∃ z : Int32, z = (own_dist ia ib ic r26 r34 r42 ib ic r77 r87) := ⟨_, rfl⟩
  rw [← hr156] at st156
  obtain ⟨cq157, kq157, q157a, q157b, q157c⟩ := isOf hZ e156 Eo130
  obtain ⟨_, _, ⟨T157, L157, k157, n157⟩, -, X157, ⟨Lc157, hQ157, l157, y157, z157⟩, st157⟩ := X156.virtualBack hx (y := (⟨"com/example/makespun/makespun/planner/evolution/Candidate", "distance", "(Lcom/example/makespun/makespun/planner/evolution/Candidate;)I"⟩ : MethodName)) (z := (⟨"com/example/makespun/makespun/planner/evolution/Candidate", "distance", "(Lcom/example/makespun/makespun/planner/evolution/Candidate;)I"⟩ : MethodName)) hown (mvT hZ (hw _ (List.mem_of_getElem? (i := 26) rfl))) (mvT hZ (hw _ (List.mem_of_getElem? (i := 27) rfl))) (notFace_of_selects (args := #[]) (mvT hZ (hw _ (List.mem_of_getElem? (i := 29) rfl)))) (mvT hZ (hw _ (List.mem_of_getElem? (i := 29) rfl))) (mvT hZ (hw _ (List.mem_of_getElem? (i := 28) rfl))) (by decide) (backOf (W := 0) (rmD l Z a0 hw [] b120 b105 b22 b71 b1 b50 k22 k71 k1 k50 r26 r34 r42 ia ib ic r77 r87 ib ic T130.heap n0 z139 Fa130 Fo130 f136 f137 f132 f134 f131 f133) hZ (hw _ (List.mem_of_getElem? (i := 30) rfl)) (hw _ (List.mem_of_getElem? (i := 7) rfl)) (by decide) (by decide)) q157a q157c (g := (mkF m 244 #[.val (.int ia), .val (.int ib), .val (.int ic), .val (.int id_), .val (.int ie), .val (.int fl), .val (.ref b1), .val (.ref b22), .val (.ref b50), .val (.ref b71), .val (.int v99), .val (.int v103), .val (.ref b105), .val (.ref b120), .val (.int ((((r143 + r146) + r149) + r152) + r155)), .val (.int r156), .unset, .unset] [(.ref b105), (.ref b120)])) rfl (by rw [hml]; rfl) (Steps.refl _) (argsL := [(.ref b105)]) (rest := []) (lenOf pd_4 rfl) rfl (by show 2 * 0 + _ ≤ _; exact Nat.le_of_eq rfl) (hb hby at_244) (fun _ _ => ⟨rfl, e156, (by decide : 6 + 0 ≤ _), (by decide : 18 + 0 ≤ _)⟩)
  dsimp only [Pt.U, Pt.locs, Pt.cells, Pt.slots] at X157 l157 y157 z157 st157 hQ157
  replace X157 := own_cast X157 l157 y157 z157
  obtain ⟨hv157, N157q, e157⟩ := hQ157
  rw [hv157] at st157
  have N157 := Fr.app N156 N157q
  obtain ⟨r157, hr157⟩ : ∃ z : Int32, z = (own_dist r26 r34 r42 ia ib ic r77 r87 ib ic) := ⟨_, rfl⟩
  rw [← hr157] at st157
  obtain ⟨cq158, kq158, q158a, q158b, q158c⟩ := isOf hZ e157 f135
  obtain ⟨_, _, ⟨T158, L158, k158, n158⟩, -, X158, ⟨Lc158, hQ158, l158, y158, z158⟩, st158⟩ := X157.virtualBack hx (y := (⟨"com/example/makespun/makespun/planner/evolution/Candidate", "distance", "(Lcom/example/makespun/makespun/planner/evolution/Candidate;)I"⟩ : MethodName)) (z := (⟨"com/example/makespun/makespun/planner/evolution/Candidate", "distance", "(Lcom/example/makespun/makespun/planner/evolution/Candidate;)I"⟩ : MethodName)) hown (mvT hZ (hw _ (List.mem_of_getElem? (i := 26) rfl))) (mvT hZ (hw _ (List.mem_of_getElem? (i := 27) rfl))) (notFace_of_selects (args := #[]) (mvT hZ (hw _ (List.mem_of_getElem? (i := 29) rfl)))) (mvT hZ (hw _ (List.mem_of_getElem? (i := 29) rfl))) (mvT hZ (hw _ (List.mem_of_getElem? (i := 28) rfl))) (by decide) (backOf (W := 0) (rmD l Z a0 hw [] b105 b105 b1 b50 b1 b50 k1 k50 k1 k50 ia ib ic ia ib ic ib ic ib ic T130.heap n0 z139 f136 f137 f136 f137 f131 f133 f131 f133) hZ (hw _ (List.mem_of_getElem? (i := 30) rfl)) (hw _ (List.mem_of_getElem? (i := 7) rfl)) (by decide) (by decide)) q158a q158c (g := (mkF m 253 #[.val (.int ia), .val (.int ib), .val (.int ic), .val (.int id_), .val (.int ie), .val (.int fl), .val (.ref b1), .val (.ref b22), .val (.ref b50), .val (.ref b71), .val (.int v99), .val (.int v103), .val (.ref b105), .val (.ref b120), .val (.int ((((r143 + r146) + r149) + r152) + r155)), .val (.int r156), .val (.int r157), .unset] [(.ref b105), (.ref b105)])) rfl (by rw [hml]; rfl) (Steps.refl _) (argsL := [(.ref b105)]) (rest := []) (lenOf pd_4 rfl) rfl (by show 2 * 0 + _ ≤ _; exact Nat.le_of_eq rfl) (hb hby at_253) (fun _ _ => ⟨rfl, e157, (by decide : 6 + 0 ≤ _), (by decide : 18 + 0 ≤ _)⟩)
  dsimp only [Pt.U, Pt.locs, Pt.cells, Pt.slots] at X158 l158 y158 z158 st158 hQ158
  replace X158 := own_cast X158 l158 y158 z158
  obtain ⟨hv158, N158q, e158⟩ := hQ158
  rw [hv158] at st158
  have N158 := Fr.app N157 N158q
  obtain ⟨r158, hr158⟩ : ∃ z : Int32, z = (own_dist ia ib ic ia ib ic ib ic ib ic) := ⟨_, rfl⟩
  rw [← hr158] at st158
  obtain ⟨fs, hr, hrun, hended, hW, hsame⟩ := X158.leave (v := some (.int (1 : Int32))) (fun h => by rw [Bd.returns] at h; cases h)
  refine ⟨_, _, k104 _ ?_, hrun, hended, _, _, rfl, ?_, ⟨_, rfl⟩, hW, hsame.mono (by decide) (by decide)⟩
  · show Steps p.tables e below (T89.setTop (mkF m 138 #[.val (.int ia), .val (.int ib), .val (.int ic), .val (.int id_), .val (.int ie), .val (.int fl), .val (.ref b1), .val (.ref b22), .val (.ref b50), .val (.ref b71), .val (.int v99), .unset, .unset, .unset, .unset, .unset, .unset, .unset] [(.int v103)])) _
    refine XS.istore X89.here hx rfl (hb hby at_138) rfl (l' := #[.val (.int ia), .val (.int ib), .val (.int ic), .val (.int id_), .val (.int ie), .val (.int fl), .val (.ref b1), .val (.ref b22), .val (.ref b50), .val (.ref b71), .val (.int v99), .val (.int v103), .unset, .unset, .unset, .unset, .unset, .unset]) rfl ?_
    show Steps p.tables e below (T89.setTop (mkF m 140 #[.val (.int ia), .val (.int ib), .val (.int ic), .val (.int id_), .val (.int ie), .val (.int fl), .val (.ref b1), .val (.ref b22), .val (.ref b50), .val (.ref b71), .val (.int v99), .val (.int v103), .unset, .unset, .unset, .unset, .unset, .unset] [])) _
    refine st105 _ ?_
    show Steps p.tables e below (T105.setTop (mkF m 143 #[.val (.int ia), .val (.int ib), .val (.int ic), .val (.int id_), .val (.int ie), .val (.int fl), .val (.ref b1), .val (.ref b22), .val (.ref b50), .val (.ref b71), .val (.int v99), .val (.int v103), .unset, .unset, .unset, .unset, .unset, .unset] [(.ref b105)])) _
    refine XS.dup X105.here hx rfl (hb hby at_143) rfl rfl ?_
    show Steps p.tables e below (T105.setTop (mkF m 144 #[.val (.int ia), .val (.int ib), .val (.int ic), .val (.int id_), .val (.int ie), .val (.int fl), .val (.ref b1), .val (.ref b22), .val (.ref b50), .val (.ref b71), .val (.int v99), .val (.int v103), .unset, .unset, .unset, .unset, .unset, .unset] [(.ref b105), (.ref b105)])) _
    refine XS.aload X105.here hx rfl (hb hby at_144) rfl rfl ?_
    show Steps p.tables e below (T105.setTop (mkF m 146 #[.val (.int ia), .val (.int ib), .val (.int ic), .val (.int id_), .val (.int ie), .val (.int fl), .val (.ref b1), .val (.ref b22), .val (.ref b50), .val (.ref b71), .val (.int v99), .val (.int v103), .unset, .unset, .unset, .unset, .unset, .unset] [(.ref b1), (.ref b105), (.ref b105)])) _
    refine XS.aload X105.here hx rfl (hb hby at_146) rfl rfl ?_
    show Steps p.tables e below (T105.setTop (mkF m 148 #[.val (.int ia), .val (.int ib), .val (.int ic), .val (.int id_), .val (.int ie), .val (.int fl), .val (.ref b1), .val (.ref b22), .val (.ref b50), .val (.ref b71), .val (.int v99), .val (.int v103), .unset, .unset, .unset, .unset, .unset, .unset] [(.ref b50), (.ref b1), (.ref b105), (.ref b105)])) _
    refine XS.iload X105.here hx rfl (hb hby at_148) rfl ?_
    show Steps p.tables e below (T105.setTop (mkF m 150 #[.val (.int ia), .val (.int ib), .val (.int ic), .val (.int id_), .val (.int ie), .val (.int fl), .val (.ref b1), .val (.ref b22), .val (.ref b50), .val (.ref b71), .val (.int v99), .val (.int v103), .unset, .unset, .unset, .unset, .unset, .unset] [(.int v99), (.ref b50), (.ref b1), (.ref b105), (.ref b105)])) _
    refine st112.trans ?_
    show Steps p.tables e below (T112.setTop (mkF m 153 #[.val (.int ia), .val (.int ib), .val (.int ic), .val (.int id_), .val (.int ie), .val (.int fl), .val (.ref b1), .val (.ref b22), .val (.ref b50), .val (.ref b71), .val (.int v99), .val (.int v103), .unset, .unset, .unset, .unset, .unset, .unset] [(.ref b105)])) _
    refine XS.astore X112.here hx rfl (hb hby at_153) rfl rfl (l' := #[.val (.int ia), .val (.int ib), .val (.int ic), .val (.int id_), .val (.int ie), .val (.int fl), .val (.ref b1), .val (.ref b22), .val (.ref b50), .val (.ref b71), .val (.int v99), .val (.int v103), .val (.ref b105), .unset, .unset, .unset, .unset, .unset]) rfl ?_
    show Steps p.tables e below (T112.setTop (mkF m 155 #[.val (.int ia), .val (.int ib), .val (.int ic), .val (.int id_), .val (.int ie), .val (.int fl), .val (.ref b1), .val (.ref b22), .val (.ref b50), .val (.ref b71), .val (.int v99), .val (.int v103), .val (.ref b105), .unset, .unset, .unset, .unset, .unset] [])) _
    refine st120 _ ?_
    show Steps p.tables e below (T120.setTop (mkF m 158 #[.val (.int ia), .val (.int ib), .val (.int ic), .val (.int id_), .val (.int ie), .val (.int fl), .val (.ref b1), .val (.ref b22), .val (.ref b50), .val (.ref b71), .val (.int v99), .val (.int v103), .val (.ref b105), .unset, .unset, .unset, .unset, .unset] [(.ref b120)])) _
    refine XS.dup X120.here hx rfl (hb hby at_158) rfl rfl ?_
    show Steps p.tables e below (T120.setTop (mkF m 159 #[.val (.int ia), .val (.int ib), .val (.int ic), .val (.int id_), .val (.int ie), .val (.int fl), .val (.ref b1), .val (.ref b22), .val (.ref b50), .val (.ref b71), .val (.int v99), .val (.int v103), .val (.ref b105), .unset, .unset, .unset, .unset, .unset] [(.ref b120), (.ref b120)])) _
    refine XS.aload X120.here hx rfl (hb hby at_159) rfl rfl ?_
    show Steps p.tables e below (T120.setTop (mkF m 161 #[.val (.int ia), .val (.int ib), .val (.int ic), .val (.int id_), .val (.int ie), .val (.int fl), .val (.ref b1), .val (.ref b22), .val (.ref b50), .val (.ref b71), .val (.int v99), .val (.int v103), .val (.ref b105), .unset, .unset, .unset, .unset, .unset] [(.ref b22), (.ref b120), (.ref b120)])) _
    refine XS.aload X120.here hx rfl (hb hby at_161) rfl rfl ?_
    show Steps p.tables e below (T120.setTop (mkF m 163 #[.val (.int ia), .val (.int ib), .val (.int ic), .val (.int id_), .val (.int ie), .val (.int fl), .val (.ref b1), .val (.ref b22), .val (.ref b50), .val (.ref b71), .val (.int v99), .val (.int v103), .val (.ref b105), .unset, .unset, .unset, .unset, .unset] [(.ref b71), (.ref b22), (.ref b120), (.ref b120)])) _
    refine XS.iload X120.here hx rfl (hb hby at_163) rfl ?_
    show Steps p.tables e below (T120.setTop (mkF m 165 #[.val (.int ia), .val (.int ib), .val (.int ic), .val (.int id_), .val (.int ie), .val (.int fl), .val (.ref b1), .val (.ref b22), .val (.ref b50), .val (.ref b71), .val (.int v99), .val (.int v103), .val (.ref b105), .unset, .unset, .unset, .unset, .unset] [(.int v103), (.ref b71), (.ref b22), (.ref b120), (.ref b120)])) _
    refine st130.trans ?_
    show Steps p.tables e below (T130.setTop (mkF m 168 #[.val (.int ia), .val (.int ib), .val (.int ic), .val (.int id_), .val (.int ie), .val (.int fl), .val (.ref b1), .val (.ref b22), .val (.ref b50), .val (.ref b71), .val (.int v99), .val (.int v103), .val (.ref b105), .unset, .unset, .unset, .unset, .unset] [(.ref b120)])) _
    refine XS.astore X130.here hx rfl (hb hby at_168) rfl rfl (l' := #[.val (.int ia), .val (.int ib), .val (.int ic), .val (.int id_), .val (.int ie), .val (.int fl), .val (.ref b1), .val (.ref b22), .val (.ref b50), .val (.ref b71), .val (.int v99), .val (.int v103), .val (.ref b105), .val (.ref b120), .unset, .unset, .unset, .unset]) rfl ?_
    show Steps p.tables e below (T130.setTop (mkF m 170 #[.val (.int ia), .val (.int ib), .val (.int ic), .val (.int id_), .val (.int ie), .val (.int fl), .val (.ref b1), .val (.ref b22), .val (.ref b50), .val (.ref b71), .val (.int v99), .val (.int v103), .val (.ref b105), .val (.ref b120), .unset, .unset, .unset, .unset] [])) _
    refine XS.aload X130.here hx rfl (hb hby at_170) rfl rfl ?_
    show Steps p.tables e below (T130.setTop (mkF m 172 #[.val (.int ia), .val (.int ib), .val (.int ic), .val (.int id_), .val (.int ie), .val (.int fl), .val (.ref b1), .val (.ref b22), .val (.ref b50), .val (.ref b71), .val (.int v99), .val (.int v103), .val (.ref b105), .val (.ref b120), .unset, .unset, .unset, .unset] [(.ref b1)])) _
    refine XS.iconst X130.here hx rfl (hb hby at_172) ?_
    show Steps p.tables e below (T130.setTop (mkF m 173 #[.val (.int ia), .val (.int ib), .val (.int ic), .val (.int id_), .val (.int ie), .val (.int fl), .val (.ref b1), .val (.ref b22), .val (.ref b50), .val (.ref b71), .val (.int v99), .val (.int v103), .val (.ref b105), .val (.ref b120), .unset, .unset, .unset, .unset] [(.int (0 : Int32)), (.ref b1)])) _
    refine X130.iaload hx (j := (0 : Int32)) (v := (.int ia)) (by exact Arq141.1) (State.isArrayOf_alike hZ.alike Arq141.2.1) Arq141.2.2 hiq141 haq141 (g := (mkF m 173 #[.val (.int ia), .val (.int ib), .val (.int ic), .val (.int id_), .val (.int ie), .val (.int fl), .val (.ref b1), .val (.ref b22), .val (.ref b50), .val (.ref b71), .val (.int v99), .val (.int v103), .val (.ref b105), .val (.ref b120), .unset, .unset, .unset, .unset] [(.int (0 : Int32)), (.ref b1)])) rfl rfl (hb hby at_173) _ ?_
    show Steps p.tables e below (T130.setTop (mkF m 174 #[.val (.int ia), .val (.int ib), .val (.int ic), .val (.int id_), .val (.int ie), .val (.int fl), .val (.ref b1), .val (.ref b22), .val (.ref b50), .val (.ref b71), .val (.int v99), .val (.int v103), .val (.ref b105), .val (.ref b120), .unset, .unset, .unset, .unset] [(.int ia)])) _
    refine XS.aload X130.here hx rfl (hb hby at_174) rfl rfl ?_
    show Steps p.tables e below (T130.setTop (mkF m 176 #[.val (.int ia), .val (.int ib), .val (.int ic), .val (.int id_), .val (.int ie), .val (.int fl), .val (.ref b1), .val (.ref b22), .val (.ref b50), .val (.ref b71), .val (.int v99), .val (.int v103), .val (.ref b105), .val (.ref b120), .unset, .unset, .unset, .unset] [(.ref b22), (.int ia)])) _
    refine XS.iconst X130.here hx rfl (hb hby at_176) ?_
    show Steps p.tables e below (T130.setTop (mkF m 177 #[.val (.int ia), .val (.int ib), .val (.int ic), .val (.int id_), .val (.int ie), .val (.int fl), .val (.ref b1), .val (.ref b22), .val (.ref b50), .val (.ref b71), .val (.int v99), .val (.int v103), .val (.ref b105), .val (.ref b120), .unset, .unset, .unset, .unset] [(.int (0 : Int32)), (.ref b22), (.int ia)])) _
    refine X130.iaload hx (j := (0 : Int32)) (v := (.int r26)) (by exact Arq142.1) (State.isArrayOf_alike hZ.alike Arq142.2.1) Arq142.2.2 hiq142 haq142 (g := (mkF m 177 #[.val (.int ia), .val (.int ib), .val (.int ic), .val (.int id_), .val (.int ie), .val (.int fl), .val (.ref b1), .val (.ref b22), .val (.ref b50), .val (.ref b71), .val (.int v99), .val (.int v103), .val (.ref b105), .val (.ref b120), .unset, .unset, .unset, .unset] [(.int (0 : Int32)), (.ref b22), (.int ia)])) rfl rfl (hb hby at_177) _ ?_
    show Steps p.tables e below (T130.setTop (mkF m 178 #[.val (.int ia), .val (.int ib), .val (.int ic), .val (.int id_), .val (.int ie), .val (.int fl), .val (.ref b1), .val (.ref b22), .val (.ref b50), .val (.ref b71), .val (.int v99), .val (.int v103), .val (.ref b105), .val (.ref b120), .unset, .unset, .unset, .unset] [(.int r26), (.int ia)])) _
    refine st143 _ ?_
    show Steps p.tables e below (T143.setTop (mkF m 181 #[.val (.int ia), .val (.int ib), .val (.int ic), .val (.int id_), .val (.int ie), .val (.int fl), .val (.ref b1), .val (.ref b22), .val (.ref b50), .val (.ref b71), .val (.int v99), .val (.int v103), .val (.ref b105), .val (.ref b120), .unset, .unset, .unset, .unset] [(.int r143)])) _
    refine XS.aload X143.here hx rfl (hb hby at_181) rfl rfl ?_
    show Steps p.tables e below (T143.setTop (mkF m 183 #[.val (.int ia), .val (.int ib), .val (.int ic), .val (.int id_), .val (.int ie), .val (.int fl), .val (.ref b1), .val (.ref b22), .val (.ref b50), .val (.ref b71), .val (.int v99), .val (.int v103), .val (.ref b105), .val (.ref b120), .unset, .unset, .unset, .unset] [(.ref b1), (.int r143)])) _
    refine XS.iconst X143.here hx rfl (hb hby at_183) ?_
    show Steps p.tables e below (T143.setTop (mkF m 184 #[.val (.int ia), .val (.int ib), .val (.int ic), .val (.int id_), .val (.int ie), .val (.int fl), .val (.ref b1), .val (.ref b22), .val (.ref b50), .val (.ref b71), .val (.int v99), .val (.int v103), .val (.ref b105), .val (.ref b120), .unset, .unset, .unset, .unset] [(.int (1 : Int32)), (.ref b1), (.int r143)])) _
    refine X143.iaload hx (j := (1 : Int32)) (v := (.int ib)) (by rw [e143]; exact Arq144.1) (State.isArrayOf_alike hZ.alike Arq144.2.1) Arq144.2.2 hiq144 haq144 (g := (mkF m 184 #[.val (.int ia), .val (.int ib), .val (.int ic), .val (.int id_), .val (.int ie), .val (.int fl), .val (.ref b1), .val (.ref b22), .val (.ref b50), .val (.ref b71), .val (.int v99), .val (.int v103), .val (.ref b105), .val (.ref b120), .unset, .unset, .unset, .unset] [(.int (1 : Int32)), (.ref b1), (.int r143)])) rfl rfl (hb hby at_184) _ ?_
    show Steps p.tables e below (T143.setTop (mkF m 185 #[.val (.int ia), .val (.int ib), .val (.int ic), .val (.int id_), .val (.int ie), .val (.int fl), .val (.ref b1), .val (.ref b22), .val (.ref b50), .val (.ref b71), .val (.int v99), .val (.int v103), .val (.ref b105), .val (.ref b120), .unset, .unset, .unset, .unset] [(.int ib), (.int r143)])) _
    refine XS.aload X143.here hx rfl (hb hby at_185) rfl rfl ?_
    show Steps p.tables e below (T143.setTop (mkF m 187 #[.val (.int ia), .val (.int ib), .val (.int ic), .val (.int id_), .val (.int ie), .val (.int fl), .val (.ref b1), .val (.ref b22), .val (.ref b50), .val (.ref b71), .val (.int v99), .val (.int v103), .val (.ref b105), .val (.ref b120), .unset, .unset, .unset, .unset] [(.ref b22), (.int ib), (.int r143)])) _
    refine XS.iconst X143.here hx rfl (hb hby at_187) ?_
    show Steps p.tables e below (T143.setTop (mkF m 188 #[.val (.int ia), .val (.int ib), .val (.int ic), .val (.int id_), .val (.int ie), .val (.int fl), .val (.ref b1), .val (.ref b22), .val (.ref b50), .val (.ref b71), .val (.int v99), .val (.int v103), .val (.ref b105), .val (.ref b120), .unset, .unset, .unset, .unset] [(.int (1 : Int32)), (.ref b22), (.int ib), (.int r143)])) _
    refine X143.iaload hx (j := (1 : Int32)) (v := (.int r34)) (by rw [e143]; exact Arq145.1) (State.isArrayOf_alike hZ.alike Arq145.2.1) Arq145.2.2 hiq145 haq145 (g := (mkF m 188 #[.val (.int ia), .val (.int ib), .val (.int ic), .val (.int id_), .val (.int ie), .val (.int fl), .val (.ref b1), .val (.ref b22), .val (.ref b50), .val (.ref b71), .val (.int v99), .val (.int v103), .val (.ref b105), .val (.ref b120), .unset, .unset, .unset, .unset] [(.int (1 : Int32)), (.ref b22), (.int ib), (.int r143)])) rfl rfl (hb hby at_188) _ ?_
    show Steps p.tables e below (T143.setTop (mkF m 189 #[.val (.int ia), .val (.int ib), .val (.int ic), .val (.int id_), .val (.int ie), .val (.int fl), .val (.ref b1), .val (.ref b22), .val (.ref b50), .val (.ref b71), .val (.int v99), .val (.int v103), .val (.ref b105), .val (.ref b120), .unset, .unset, .unset, .unset] [(.int r34), (.int ib), (.int r143)])) _
    refine st146 _ ?_
    show Steps p.tables e below (T146.setTop (mkF m 192 #[.val (.int ia), .val (.int ib), .val (.int ic), .val (.int id_), .val (.int ie), .val (.int fl), .val (.ref b1), .val (.ref b22), .val (.ref b50), .val (.ref b71), .val (.int v99), .val (.int v103), .val (.ref b105), .val (.ref b120), .unset, .unset, .unset, .unset] [(.int r146), (.int r143)])) _
    refine XS.iadd X146.here hx rfl (hb hby at_192) rfl ?_
    show Steps p.tables e below (T146.setTop (mkF m 193 #[.val (.int ia), .val (.int ib), .val (.int ic), .val (.int id_), .val (.int ie), .val (.int fl), .val (.ref b1), .val (.ref b22), .val (.ref b50), .val (.ref b71), .val (.int v99), .val (.int v103), .val (.ref b105), .val (.ref b120), .unset, .unset, .unset, .unset] [(.int (r143 + r146))])) _
    refine XS.aload X146.here hx rfl (hb hby at_193) rfl rfl ?_
    show Steps p.tables e below (T146.setTop (mkF m 195 #[.val (.int ia), .val (.int ib), .val (.int ic), .val (.int id_), .val (.int ie), .val (.int fl), .val (.ref b1), .val (.ref b22), .val (.ref b50), .val (.ref b71), .val (.int v99), .val (.int v103), .val (.ref b105), .val (.ref b120), .unset, .unset, .unset, .unset] [(.ref b1), (.int (r143 + r146))])) _
    refine XS.iconst X146.here hx rfl (hb hby at_195) ?_
    show Steps p.tables e below (T146.setTop (mkF m 196 #[.val (.int ia), .val (.int ib), .val (.int ic), .val (.int id_), .val (.int ie), .val (.int fl), .val (.ref b1), .val (.ref b22), .val (.ref b50), .val (.ref b71), .val (.int v99), .val (.int v103), .val (.ref b105), .val (.ref b120), .unset, .unset, .unset, .unset] [(.int (2 : Int32)), (.ref b1), (.int (r143 + r146))])) _
    refine X146.iaload hx (j := (2 : Int32)) (v := (.int ic)) (by rw [e146]; exact Arq147.1) (State.isArrayOf_alike hZ.alike Arq147.2.1) Arq147.2.2 hiq147 haq147 (g := (mkF m 196 #[.val (.int ia), .val (.int ib), .val (.int ic), .val (.int id_), .val (.int ie), .val (.int fl), .val (.ref b1), .val (.ref b22), .val (.ref b50), .val (.ref b71), .val (.int v99), .val (.int v103), .val (.ref b105), .val (.ref b120), .unset, .unset, .unset, .unset] [(.int (2 : Int32)), (.ref b1), (.int (r143 + r146))])) rfl rfl (hb hby at_196) _ ?_
    show Steps p.tables e below (T146.setTop (mkF m 197 #[.val (.int ia), .val (.int ib), .val (.int ic), .val (.int id_), .val (.int ie), .val (.int fl), .val (.ref b1), .val (.ref b22), .val (.ref b50), .val (.ref b71), .val (.int v99), .val (.int v103), .val (.ref b105), .val (.ref b120), .unset, .unset, .unset, .unset] [(.int ic), (.int (r143 + r146))])) _
    refine XS.aload X146.here hx rfl (hb hby at_197) rfl rfl ?_
    show Steps p.tables e below (T146.setTop (mkF m 199 #[.val (.int ia), .val (.int ib), .val (.int ic), .val (.int id_), .val (.int ie), .val (.int fl), .val (.ref b1), .val (.ref b22), .val (.ref b50), .val (.ref b71), .val (.int v99), .val (.int v103), .val (.ref b105), .val (.ref b120), .unset, .unset, .unset, .unset] [(.ref b22), (.int ic), (.int (r143 + r146))])) _
    refine XS.iconst X146.here hx rfl (hb hby at_199) ?_
    show Steps p.tables e below (T146.setTop (mkF m 200 #[.val (.int ia), .val (.int ib), .val (.int ic), .val (.int id_), .val (.int ie), .val (.int fl), .val (.ref b1), .val (.ref b22), .val (.ref b50), .val (.ref b71), .val (.int v99), .val (.int v103), .val (.ref b105), .val (.ref b120), .unset, .unset, .unset, .unset] [(.int (2 : Int32)), (.ref b22), (.int ic), (.int (r143 + r146))])) _
    refine X146.iaload hx (j := (2 : Int32)) (v := (.int r42)) (by rw [e146]; exact Arq148.1) (State.isArrayOf_alike hZ.alike Arq148.2.1) Arq148.2.2 hiq148 haq148 (g := (mkF m 200 #[.val (.int ia), .val (.int ib), .val (.int ic), .val (.int id_), .val (.int ie), .val (.int fl), .val (.ref b1), .val (.ref b22), .val (.ref b50), .val (.ref b71), .val (.int v99), .val (.int v103), .val (.ref b105), .val (.ref b120), .unset, .unset, .unset, .unset] [(.int (2 : Int32)), (.ref b22), (.int ic), (.int (r143 + r146))])) rfl rfl (hb hby at_200) _ ?_
    show Steps p.tables e below (T146.setTop (mkF m 201 #[.val (.int ia), .val (.int ib), .val (.int ic), .val (.int id_), .val (.int ie), .val (.int fl), .val (.ref b1), .val (.ref b22), .val (.ref b50), .val (.ref b71), .val (.int v99), .val (.int v103), .val (.ref b105), .val (.ref b120), .unset, .unset, .unset, .unset] [(.int r42), (.int ic), (.int (r143 + r146))])) _
    refine st149 _ ?_
    show Steps p.tables e below (T149.setTop (mkF m 204 #[.val (.int ia), .val (.int ib), .val (.int ic), .val (.int id_), .val (.int ie), .val (.int fl), .val (.ref b1), .val (.ref b22), .val (.ref b50), .val (.ref b71), .val (.int v99), .val (.int v103), .val (.ref b105), .val (.ref b120), .unset, .unset, .unset, .unset] [(.int r149), (.int (r143 + r146))])) _
    refine XS.iadd X149.here hx rfl (hb hby at_204) rfl ?_
    show Steps p.tables e below (T149.setTop (mkF m 205 #[.val (.int ia), .val (.int ib), .val (.int ic), .val (.int id_), .val (.int ie), .val (.int fl), .val (.ref b1), .val (.ref b22), .val (.ref b50), .val (.ref b71), .val (.int v99), .val (.int v103), .val (.ref b105), .val (.ref b120), .unset, .unset, .unset, .unset] [(.int ((r143 + r146) + r149))])) _
    refine XS.aload X149.here hx rfl (hb hby at_205) rfl rfl ?_
    show Steps p.tables e below (T149.setTop (mkF m 207 #[.val (.int ia), .val (.int ib), .val (.int ic), .val (.int id_), .val (.int ie), .val (.int fl), .val (.ref b1), .val (.ref b22), .val (.ref b50), .val (.ref b71), .val (.int v99), .val (.int v103), .val (.ref b105), .val (.ref b120), .unset, .unset, .unset, .unset] [(.ref b50), (.int ((r143 + r146) + r149))])) _
    refine XS.iconst X149.here hx rfl (hb hby at_207) ?_
    show Steps p.tables e below (T149.setTop (mkF m 208 #[.val (.int ia), .val (.int ib), .val (.int ic), .val (.int id_), .val (.int ie), .val (.int fl), .val (.ref b1), .val (.ref b22), .val (.ref b50), .val (.ref b71), .val (.int v99), .val (.int v103), .val (.ref b105), .val (.ref b120), .unset, .unset, .unset, .unset] [(.int (0 : Int32)), (.ref b50), (.int ((r143 + r146) + r149))])) _
    refine X149.iaload hx (j := (0 : Int32)) (v := (.int ib)) (by rw [e149]; exact Arq150.1) (State.isArrayOf_alike hZ.alike Arq150.2.1) Arq150.2.2 hiq150 haq150 (g := (mkF m 208 #[.val (.int ia), .val (.int ib), .val (.int ic), .val (.int id_), .val (.int ie), .val (.int fl), .val (.ref b1), .val (.ref b22), .val (.ref b50), .val (.ref b71), .val (.int v99), .val (.int v103), .val (.ref b105), .val (.ref b120), .unset, .unset, .unset, .unset] [(.int (0 : Int32)), (.ref b50), (.int ((r143 + r146) + r149))])) rfl rfl (hb hby at_208) _ ?_
    show Steps p.tables e below (T149.setTop (mkF m 209 #[.val (.int ia), .val (.int ib), .val (.int ic), .val (.int id_), .val (.int ie), .val (.int fl), .val (.ref b1), .val (.ref b22), .val (.ref b50), .val (.ref b71), .val (.int v99), .val (.int v103), .val (.ref b105), .val (.ref b120), .unset, .unset, .unset, .unset] [(.int ib), (.int ((r143 + r146) + r149))])) _
    refine XS.aload X149.here hx rfl (hb hby at_209) rfl rfl ?_
    show Steps p.tables e below (T149.setTop (mkF m 211 #[.val (.int ia), .val (.int ib), .val (.int ic), .val (.int id_), .val (.int ie), .val (.int fl), .val (.ref b1), .val (.ref b22), .val (.ref b50), .val (.ref b71), .val (.int v99), .val (.int v103), .val (.ref b105), .val (.ref b120), .unset, .unset, .unset, .unset] [(.ref b71), (.int ib), (.int ((r143 + r146) + r149))])) _
    refine XS.iconst X149.here hx rfl (hb hby at_211) ?_
    show Steps p.tables e below (T149.setTop (mkF m 212 #[.val (.int ia), .val (.int ib), .val (.int ic), .val (.int id_), .val (.int ie), .val (.int fl), .val (.ref b1), .val (.ref b22), .val (.ref b50), .val (.ref b71), .val (.int v99), .val (.int v103), .val (.ref b105), .val (.ref b120), .unset, .unset, .unset, .unset] [(.int (0 : Int32)), (.ref b71), (.int ib), (.int ((r143 + r146) + r149))])) _
    refine X149.iaload hx (j := (0 : Int32)) (v := (.int r77)) (by rw [e149]; exact Arq151.1) (State.isArrayOf_alike hZ.alike Arq151.2.1) Arq151.2.2 hiq151 haq151 (g := (mkF m 212 #[.val (.int ia), .val (.int ib), .val (.int ic), .val (.int id_), .val (.int ie), .val (.int fl), .val (.ref b1), .val (.ref b22), .val (.ref b50), .val (.ref b71), .val (.int v99), .val (.int v103), .val (.ref b105), .val (.ref b120), .unset, .unset, .unset, .unset] [(.int (0 : Int32)), (.ref b71), (.int ib), (.int ((r143 + r146) + r149))])) rfl rfl (hb hby at_212) _ ?_
    show Steps p.tables e below (T149.setTop (mkF m 213 #[.val (.int ia), .val (.int ib), .val (.int ic), .val (.int id_), .val (.int ie), .val (.int fl), .val (.ref b1), .val (.ref b22), .val (.ref b50), .val (.ref b71), .val (.int v99), .val (.int v103), .val (.ref b105), .val (.ref b120), .unset, .unset, .unset, .unset] [(.int r77), (.int ib), (.int ((r143 + r146) + r149))])) _
    refine st152 _ ?_
    show Steps p.tables e below (T152.setTop (mkF m 216 #[.val (.int ia), .val (.int ib), .val (.int ic), .val (.int id_), .val (.int ie), .val (.int fl), .val (.ref b1), .val (.ref b22), .val (.ref b50), .val (.ref b71), .val (.int v99), .val (.int v103), .val (.ref b105), .val (.ref b120), .unset, .unset, .unset, .unset] [(.int r152), (.int ((r143 + r146) + r149))])) _
    refine XS.iadd X152.here hx rfl (hb hby at_216) rfl ?_
    show Steps p.tables e below (T152.setTop (mkF m 217 #[.val (.int ia), .val (.int ib), .val (.int ic), .val (.int id_), .val (.int ie), .val (.int fl), .val (.ref b1), .val (.ref b22), .val (.ref b50), .val (.ref b71), .val (.int v99), .val (.int v103), .val (.ref b105), .val (.ref b120), .unset, .unset, .unset, .unset] [(.int (((r143 + r146) + r149) + r152))])) _
    refine XS.aload X152.here hx rfl (hb hby at_217) rfl rfl ?_
    show Steps p.tables e below (T152.setTop (mkF m 219 #[.val (.int ia), .val (.int ib), .val (.int ic), .val (.int id_), .val (.int ie), .val (.int fl), .val (.ref b1), .val (.ref b22), .val (.ref b50), .val (.ref b71), .val (.int v99), .val (.int v103), .val (.ref b105), .val (.ref b120), .unset, .unset, .unset, .unset] [(.ref b50), (.int (((r143 + r146) + r149) + r152))])) _
    refine XS.iconst X152.here hx rfl (hb hby at_219) ?_
    show Steps p.tables e below (T152.setTop (mkF m 220 #[.val (.int ia), .val (.int ib), .val (.int ic), .val (.int id_), .val (.int ie), .val (.int fl), .val (.ref b1), .val (.ref b22), .val (.ref b50), .val (.ref b71), .val (.int v99), .val (.int v103), .val (.ref b105), .val (.ref b120), .unset, .unset, .unset, .unset] [(.int (1 : Int32)), (.ref b50), (.int (((r143 + r146) + r149) + r152))])) _
    refine X152.iaload hx (j := (1 : Int32)) (v := (.int ic)) (by rw [e152]; exact Arq153.1) (State.isArrayOf_alike hZ.alike Arq153.2.1) Arq153.2.2 hiq153 haq153 (g := (mkF m 220 #[.val (.int ia), .val (.int ib), .val (.int ic), .val (.int id_), .val (.int ie), .val (.int fl), .val (.ref b1), .val (.ref b22), .val (.ref b50), .val (.ref b71), .val (.int v99), .val (.int v103), .val (.ref b105), .val (.ref b120), .unset, .unset, .unset, .unset] [(.int (1 : Int32)), (.ref b50), (.int (((r143 + r146) + r149) + r152))])) rfl rfl (hb hby at_220) _ ?_
    show Steps p.tables e below (T152.setTop (mkF m 221 #[.val (.int ia), .val (.int ib), .val (.int ic), .val (.int id_), .val (.int ie), .val (.int fl), .val (.ref b1), .val (.ref b22), .val (.ref b50), .val (.ref b71), .val (.int v99), .val (.int v103), .val (.ref b105), .val (.ref b120), .unset, .unset, .unset, .unset] [(.int ic), (.int (((r143 + r146) + r149) + r152))])) _
    refine XS.aload X152.here hx rfl (hb hby at_221) rfl rfl ?_
    show Steps p.tables e below (T152.setTop (mkF m 223 #[.val (.int ia), .val (.int ib), .val (.int ic), .val (.int id_), .val (.int ie), .val (.int fl), .val (.ref b1), .val (.ref b22), .val (.ref b50), .val (.ref b71), .val (.int v99), .val (.int v103), .val (.ref b105), .val (.ref b120), .unset, .unset, .unset, .unset] [(.ref b71), (.int ic), (.int (((r143 + r146) + r149) + r152))])) _
    refine XS.iconst X152.here hx rfl (hb hby at_223) ?_
    show Steps p.tables e below (T152.setTop (mkF m 224 #[.val (.int ia), .val (.int ib), .val (.int ic), .val (.int id_), .val (.int ie), .val (.int fl), .val (.ref b1), .val (.ref b22), .val (.ref b50), .val (.ref b71), .val (.int v99), .val (.int v103), .val (.ref b105), .val (.ref b120), .unset, .unset, .unset, .unset] [(.int (1 : Int32)), (.ref b71), (.int ic), (.int (((r143 + r146) + r149) + r152))])) _
    refine X152.iaload hx (j := (1 : Int32)) (v := (.int r87)) (by rw [e152]; exact Arq154.1) (State.isArrayOf_alike hZ.alike Arq154.2.1) Arq154.2.2 hiq154 haq154 (g := (mkF m 224 #[.val (.int ia), .val (.int ib), .val (.int ic), .val (.int id_), .val (.int ie), .val (.int fl), .val (.ref b1), .val (.ref b22), .val (.ref b50), .val (.ref b71), .val (.int v99), .val (.int v103), .val (.ref b105), .val (.ref b120), .unset, .unset, .unset, .unset] [(.int (1 : Int32)), (.ref b71), (.int ic), (.int (((r143 + r146) + r149) + r152))])) rfl rfl (hb hby at_224) _ ?_
    show Steps p.tables e below (T152.setTop (mkF m 225 #[.val (.int ia), .val (.int ib), .val (.int ic), .val (.int id_), .val (.int ie), .val (.int fl), .val (.ref b1), .val (.ref b22), .val (.ref b50), .val (.ref b71), .val (.int v99), .val (.int v103), .val (.ref b105), .val (.ref b120), .unset, .unset, .unset, .unset] [(.int r87), (.int ic), (.int (((r143 + r146) + r149) + r152))])) _
    refine st155 _ ?_
    show Steps p.tables e below (T155.setTop (mkF m 228 #[.val (.int ia), .val (.int ib), .val (.int ic), .val (.int id_), .val (.int ie), .val (.int fl), .val (.ref b1), .val (.ref b22), .val (.ref b50), .val (.ref b71), .val (.int v99), .val (.int v103), .val (.ref b105), .val (.ref b120), .unset, .unset, .unset, .unset] [(.int r155), (.int (((r143 + r146) + r149) + r152))])) _
    refine XS.iadd X155.here hx rfl (hb hby at_228) rfl ?_
    show Steps p.tables e below (T155.setTop (mkF m 229 #[.val (.int ia), .val (.int ib), .val (.int ic), .val (.int id_), .val (.int ie), .val (.int fl), .val (.ref b1), .val (.ref b22), .val (.ref b50), .val (.ref b71), .val (.int v99), .val (.int v103), .val (.ref b105), .val (.ref b120), .unset, .unset, .unset, .unset] [(.int ((((r143 + r146) + r149) + r152) + r155))])) _
    refine XS.istore X155.here hx rfl (hb hby at_229) rfl (l' := #[.val (.int ia), .val (.int ib), .val (.int ic), .val (.int id_), .val (.int ie), .val (.int fl), .val (.ref b1), .val (.ref b22), .val (.ref b50), .val (.ref b71), .val (.int v99), .val (.int v103), .val (.ref b105), .val (.ref b120), .val (.int ((((r143 + r146) + r149) + r152) + r155)), .unset, .unset, .unset]) rfl ?_
    show Steps p.tables e below (T155.setTop (mkF m 231 #[.val (.int ia), .val (.int ib), .val (.int ic), .val (.int id_), .val (.int ie), .val (.int fl), .val (.ref b1), .val (.ref b22), .val (.ref b50), .val (.ref b71), .val (.int v99), .val (.int v103), .val (.ref b105), .val (.ref b120), .val (.int ((((r143 + r146) + r149) + r152) + r155)), .unset, .unset, .unset] [])) _
    refine XS.aload X155.here hx rfl (hb hby at_231) rfl rfl ?_
    show Steps p.tables e below (T155.setTop (mkF m 233 #[.val (.int ia), .val (.int ib), .val (.int ic), .val (.int id_), .val (.int ie), .val (.int fl), .val (.ref b1), .val (.ref b22), .val (.ref b50), .val (.ref b71), .val (.int v99), .val (.int v103), .val (.ref b105), .val (.ref b120), .val (.int ((((r143 + r146) + r149) + r152) + r155)), .unset, .unset, .unset] [(.ref b105)])) _
    refine XS.aload X155.here hx rfl (hb hby at_233) rfl rfl ?_
    show Steps p.tables e below (T155.setTop (mkF m 235 #[.val (.int ia), .val (.int ib), .val (.int ic), .val (.int id_), .val (.int ie), .val (.int fl), .val (.ref b1), .val (.ref b22), .val (.ref b50), .val (.ref b71), .val (.int v99), .val (.int v103), .val (.ref b105), .val (.ref b120), .val (.int ((((r143 + r146) + r149) + r152) + r155)), .unset, .unset, .unset] [(.ref b120), (.ref b105)])) _
    refine st156.trans ?_
    show Steps p.tables e below (T156.setTop (mkF m 238 #[.val (.int ia), .val (.int ib), .val (.int ic), .val (.int id_), .val (.int ie), .val (.int fl), .val (.ref b1), .val (.ref b22), .val (.ref b50), .val (.ref b71), .val (.int v99), .val (.int v103), .val (.ref b105), .val (.ref b120), .val (.int ((((r143 + r146) + r149) + r152) + r155)), .unset, .unset, .unset] [(.int r156)])) _
    refine XS.istore X156.here hx rfl (hb hby at_238) rfl (l' := #[.val (.int ia), .val (.int ib), .val (.int ic), .val (.int id_), .val (.int ie), .val (.int fl), .val (.ref b1), .val (.ref b22), .val (.ref b50), .val (.ref b71), .val (.int v99), .val (.int v103), .val (.ref b105), .val (.ref b120), .val (.int ((((r143 + r146) + r149) + r152) + r155)), .val (.int r156), .unset, .unset]) rfl ?_
    show Steps p.tables e below (T156.setTop (mkF m 240 #[.val (.int ia), .val (.int ib), .val (.int ic), .val (.int id_), .val (.int ie), .val (.int fl), .val (.ref b1), .val (.ref b22), .val (.ref b50), .val (.ref b71), .val (.int v99), .val (.int v103), .val (.ref b105), .val (.ref b120), .val (.int ((((r143 + r146) + r149) + r152) + r155)), .val (.int r156), .unset, .unset] [])) _
    refine XS.aload X156.here hx rfl (hb hby at_240) rfl rfl ?_
    show Steps p.tables e below (T156.setTop (mkF m 242 #[.val (.int ia), .val (.int ib), .val (.int ic), .val (.int id_), .val (.int ie), .val (.int fl), .val (.ref b1), .val (.ref b22), .val (.ref b50), .val (.ref b71), .val (.int v99), .val (.int v103), .val (.ref b105), .val (.ref b120), .val (.int ((((r143 + r146) + r149) + r152) + r155)), .val (.int r156), .unset, .unset] [(.ref b120)])) _
    refine XS.aload X156.here hx rfl (hb hby at_242) rfl rfl ?_
    show Steps p.tables e below (T156.setTop (mkF m 244 #[.val (.int ia), .val (.int ib), .val (.int ic), .val (.int id_), .val (.int ie), .val (.int fl), .val (.ref b1), .val (.ref b22), .val (.ref b50), .val (.ref b71), .val (.int v99), .val (.int v103), .val (.ref b105), .val (.ref b120), .val (.int ((((r143 + r146) + r149) + r152) + r155)), .val (.int r156), .unset, .unset] [(.ref b105), (.ref b120)])) _
    refine st157.trans ?_
    show Steps p.tables e below (T157.setTop (mkF m 247 #[.val (.int ia), .val (.int ib), .val (.int ic), .val (.int id_), .val (.int ie), .val (.int fl), .val (.ref b1), .val (.ref b22), .val (.ref b50), .val (.ref b71), .val (.int v99), .val (.int v103), .val (.ref b105), .val (.ref b120), .val (.int ((((r143 + r146) + r149) + r152) + r155)), .val (.int r156), .unset, .unset] [(.int r157)])) _
    refine XS.istore X157.here hx rfl (hb hby at_247) rfl (l' := #[.val (.int ia), .val (.int ib), .val (.int ic), .val (.int id_), .val (.int ie), .val (.int fl), .val (.ref b1), .val (.ref b22), .val (.ref b50), .val (.ref b71), .val (.int v99), .val (.int v103), .val (.ref b105), .val (.ref b120), .val (.int ((((r143 + r146) + r149) + r152) + r155)), .val (.int r156), .val (.int r157), .unset]) rfl ?_
    show Steps p.tables e below (T157.setTop (mkF m 249 #[.val (.int ia), .val (.int ib), .val (.int ic), .val (.int id_), .val (.int ie), .val (.int fl), .val (.ref b1), .val (.ref b22), .val (.ref b50), .val (.ref b71), .val (.int v99), .val (.int v103), .val (.ref b105), .val (.ref b120), .val (.int ((((r143 + r146) + r149) + r152) + r155)), .val (.int r156), .val (.int r157), .unset] [])) _
    refine XS.aload X157.here hx rfl (hb hby at_249) rfl rfl ?_
    show Steps p.tables e below (T157.setTop (mkF m 251 #[.val (.int ia), .val (.int ib), .val (.int ic), .val (.int id_), .val (.int ie), .val (.int fl), .val (.ref b1), .val (.ref b22), .val (.ref b50), .val (.ref b71), .val (.int v99), .val (.int v103), .val (.ref b105), .val (.ref b120), .val (.int ((((r143 + r146) + r149) + r152) + r155)), .val (.int r156), .val (.int r157), .unset] [(.ref b105)])) _
    refine XS.aload X157.here hx rfl (hb hby at_251) rfl rfl ?_
    show Steps p.tables e below (T157.setTop (mkF m 253 #[.val (.int ia), .val (.int ib), .val (.int ic), .val (.int id_), .val (.int ie), .val (.int fl), .val (.ref b1), .val (.ref b22), .val (.ref b50), .val (.ref b71), .val (.int v99), .val (.int v103), .val (.ref b105), .val (.ref b120), .val (.int ((((r143 + r146) + r149) + r152) + r155)), .val (.int r156), .val (.int r157), .unset] [(.ref b105), (.ref b105)])) _
    refine st158.trans ?_
    show Steps p.tables e below (T158.setTop (mkF m 256 #[.val (.int ia), .val (.int ib), .val (.int ic), .val (.int id_), .val (.int ie), .val (.int fl), .val (.ref b1), .val (.ref b22), .val (.ref b50), .val (.ref b71), .val (.int v99), .val (.int v103), .val (.ref b105), .val (.ref b120), .val (.int ((((r143 + r146) + r149) + r152) + r155)), .val (.int r156), .val (.int r157), .unset] [(.int r158)])) _
    refine XS.istore X158.here hx rfl (hb hby at_256) rfl (l' := #[.val (.int ia), .val (.int ib), .val (.int ic), .val (.int id_), .val (.int ie), .val (.int fl), .val (.ref b1), .val (.ref b22), .val (.ref b50), .val (.ref b71), .val (.int v99), .val (.int v103), .val (.ref b105), .val (.ref b120), .val (.int ((((r143 + r146) + r149) + r152) + r155)), .val (.int r156), .val (.int r157), .val (.int r158)]) rfl ?_
    show Steps p.tables e below (T158.setTop (mkF m 258 #[.val (.int ia), .val (.int ib), .val (.int ic), .val (.int id_), .val (.int ie), .val (.int fl), .val (.ref b1), .val (.ref b22), .val (.ref b50), .val (.ref b71), .val (.int v99), .val (.int v103), .val (.ref b105), .val (.ref b120), .val (.int ((((r143 + r146) + r149) + r152) + r155)), .val (.int r156), .val (.int r157), .val (.int r158)] [])) _
    refine XS.iload X158.here hx rfl (hb hby at_258) rfl ?_
    show Steps p.tables e below (T158.setTop (mkF m 260 #[.val (.int ia), .val (.int ib), .val (.int ic), .val (.int id_), .val (.int ie), .val (.int fl), .val (.ref b1), .val (.ref b22), .val (.ref b50), .val (.ref b71), .val (.int v99), .val (.int v103), .val (.ref b105), .val (.ref b120), .val (.int ((((r143 + r146) + r149) + r152) + r155)), .val (.int r156), .val (.int r157), .val (.int r158)] [(.int r156)])) _
    refine XS.iload X158.here hx rfl (hb hby at_260) rfl ?_
    show Steps p.tables e below (T158.setTop (mkF m 262 #[.val (.int ia), .val (.int ib), .val (.int ic), .val (.int id_), .val (.int ie), .val (.int fl), .val (.ref b1), .val (.ref b22), .val (.ref b50), .val (.ref b71), .val (.int v99), .val (.int v103), .val (.ref b105), .val (.ref b120), .val (.int ((((r143 + r146) + r149) + r152) + r155)), .val (.int r156), .val (.int r157), .val (.int r158)] [(.int ((((r143 + r146) + r149) + r152) + r155)), (.int r156)])) _
    refine XS.icmpNo X158.here hx rfl (hb hby at_262) rfl (teq (show r156 = ((((r143 + r146) + r149) + r152) + r155) from by rw [hr156, hr143, hr146, hr149, hr152, hr155]; exact own_dist_sum _ _ _ _ _ _ _ _ _ _)).2 ?_
    show Steps p.tables e below (T158.setTop (mkF m 265 #[.val (.int ia), .val (.int ib), .val (.int ic), .val (.int id_), .val (.int ie), .val (.int fl), .val (.ref b1), .val (.ref b22), .val (.ref b50), .val (.ref b71), .val (.int v99), .val (.int v103), .val (.ref b105), .val (.ref b120), .val (.int ((((r143 + r146) + r149) + r152) + r155)), .val (.int r156), .val (.int r157), .val (.int r158)] [])) _
    refine XS.iload X158.here hx rfl (hb hby at_265) rfl ?_
    show Steps p.tables e below (T158.setTop (mkF m 267 #[.val (.int ia), .val (.int ib), .val (.int ic), .val (.int id_), .val (.int ie), .val (.int fl), .val (.ref b1), .val (.ref b22), .val (.ref b50), .val (.ref b71), .val (.int v99), .val (.int v103), .val (.ref b105), .val (.ref b120), .val (.int ((((r143 + r146) + r149) + r152) + r155)), .val (.int r156), .val (.int r157), .val (.int r158)] [(.int r157)])) _
    refine XS.iload X158.here hx rfl (hb hby at_267) rfl ?_
    show Steps p.tables e below (T158.setTop (mkF m 269 #[.val (.int ia), .val (.int ib), .val (.int ic), .val (.int id_), .val (.int ie), .val (.int fl), .val (.ref b1), .val (.ref b22), .val (.ref b50), .val (.ref b71), .val (.int v99), .val (.int v103), .val (.ref b105), .val (.ref b120), .val (.int ((((r143 + r146) + r149) + r152) + r155)), .val (.int r156), .val (.int r157), .val (.int r158)] [(.int ((((r143 + r146) + r149) + r152) + r155)), (.int r157)])) _
    refine XS.icmpNo X158.here hx rfl (hb hby at_269) rfl (teq (show r157 = ((((r143 + r146) + r149) + r152) + r155) from by rw [hr157, hr143, hr146, hr149, hr152, hr155]; exact own_dist_symm _ _ _ _ _ _ _ _ _ _)).2 ?_
    show Steps p.tables e below (T158.setTop (mkF m 272 #[.val (.int ia), .val (.int ib), .val (.int ic), .val (.int id_), .val (.int ie), .val (.int fl), .val (.ref b1), .val (.ref b22), .val (.ref b50), .val (.ref b71), .val (.int v99), .val (.int v103), .val (.ref b105), .val (.ref b120), .val (.int ((((r143 + r146) + r149) + r152) + r155)), .val (.int r156), .val (.int r157), .val (.int r158)] [])) _
    refine XS.iload X158.here hx rfl (hb hby at_272) rfl ?_
    show Steps p.tables e below (T158.setTop (mkF m 274 #[.val (.int ia), .val (.int ib), .val (.int ic), .val (.int id_), .val (.int ie), .val (.int fl), .val (.ref b1), .val (.ref b22), .val (.ref b50), .val (.ref b71), .val (.int v99), .val (.int v103), .val (.ref b105), .val (.ref b120), .val (.int ((((r143 + r146) + r149) + r152) + r155)), .val (.int r156), .val (.int r157), .val (.int r158)] [(.int r158)])) _
    refine XS.ifNo X158.here hx rfl (hb hby at_274) rfl ((if0 _ _).trans (teq (show r158 = (0 : Int32) from by rw [hr158]; exact own_dist_self _ _ _ _ _)).2) ?_
    show Steps p.tables e below (T158.setTop (mkF m 277 #[.val (.int ia), .val (.int ib), .val (.int ic), .val (.int id_), .val (.int ie), .val (.int fl), .val (.ref b1), .val (.ref b22), .val (.ref b50), .val (.ref b71), .val (.int v99), .val (.int v103), .val (.ref b105), .val (.ref b120), .val (.int ((((r143 + r146) + r149) + r152) + r155)), .val (.int r156), .val (.int r157), .val (.int r158)] [])) _
    refine XS.iconst X158.here hx rfl (hb hby at_277) ?_
    show Steps p.tables e below (T158.setTop (mkF m 278 #[.val (.int ia), .val (.int ib), .val (.int ic), .val (.int id_), .val (.int ie), .val (.int fl), .val (.ref b1), .val (.ref b22), .val (.ref b50), .val (.ref b71), .val (.int v99), .val (.int v103), .val (.ref b105), .val (.ref b120), .val (.int ((((r143 + r146) + r149) + r152) + r155)), .val (.int r156), .val (.int r157), .val (.int r158)] [(.int (1 : Int32))])) _
    refine XS.goto X158.here hx rfl (pc0 := 278) (pc' := 282) rfl (hb hby at_278) (by decide) (by decide) ?_
    show Steps p.tables e below (T158.setTop (mkF m 282 #[.val (.int ia), .val (.int ib), .val (.int ic), .val (.int id_), .val (.int ie), .val (.int fl), .val (.ref b1), .val (.ref b22), .val (.ref b50), .val (.ref b71), .val (.int v99), .val (.int v103), .val (.ref b105), .val (.ref b120), .val (.int ((((r143 + r146) + r149) + r152) + r155)), .val (.int r156), .val (.int r157), .val (.int r158)] [(.int (1 : Int32))])) _
    exact retN X158 hx (t := .boolean) Bd.returns (by simp) (hb hby at_282) hr
  · show own_Q0 Z ia ib ic id_ ie fl h0 n0 _ T158.heap _
    rw [e158]
    exact ⟨rfl, N158⟩
set_option maxRecDepth 65536 in
set_option maxHeartbeats 40000000 in
theorem comes_1 {Post : Tables → Env → Array Value → State → Outcome → State → Prop} (hpost : ∀ tb e args s v u, (limb_1_1.after args s (.returned v) u = true ∧ limb_1_2.after args s (.returned v) u = true ∧ True) → FrameEnd s (.returned v) u (Jvm.fieldLocs frame_1_writes args s ++ Jvm.arrayLocs frame_1_arrays args s ++ Jvm.staticLocs frame_1_statics s) 24 128 → Post tb e args s (.returned v) u) :
    ArmFor flags0 classFile x code maxLocals ret World_1 tables_1 room_1 Calls_1 rest_1 Pre_1 Post := by
  intro l hfl _ _ p e ha hc hk s m args below hf hA hF happ hP
  obtain ⟨hcalls, hrest, hpre⟩ := hP
  obtain ⟨-, -, -, hnamed, -, -, -, hat⟩ := (Spec.applies_iff hf).mp happ
  obtain ⟨hg, hn⟩ := and_e (Cond.before_iff.mp (show (Jvm.Cond.and given_1 narrow_1).before args s = true from hpre))
  obtain ⟨hcount, hg0⟩ := and_e hg
  obtain ⟨hv0, hg1⟩ := and_e hg0
  obtain ⟨hv1, hg2⟩ := and_e hg1
  obtain ⟨hv2, hg3⟩ := and_e hg2
  obtain ⟨hv3, hg4⟩ := and_e hg3
  obtain ⟨hv4, hg5⟩ := and_e hg4
  have hv5 := hg5
  obtain ⟨w0, w1, w2, w3, w4, w5, rfl⟩ : ∃ w0 w1 w2 w3 w4 w5 : Value, args = #[w0, w1, w2, w3, w4, w5] := by
    have hs : args.size = 6 := by simpa [Cond.value, given_1] using hcount
    obtain ⟨L⟩ := args
    match L, hs with
    | [w0, w1, w2, w3, w4, w5], _ => exact ⟨w0, w1, w2, w3, w4, w5, rfl⟩
  have hw := fun d (hd : d ∈ tables_1) => atoms_spec (ws := Jvm.Cond.code x code maxLocals ret :: tables_1) hat d (List.mem_cons_of_mem _ hd)
  have hfit : Fit s := fun {y c} hc i hi => by
    obtain ⟨ha, rfl⟩ := Array.getElem?_eq_some_iff.mp hc
    have q := List.all_eq_true.mp ((Array.all_eq_true_iff_forall_mem.mp hF) _ (Array.getElem_mem ha)) i (List.mem_range.mpr hi)
    simpa [Array.getElem?_eq_getElem hi] using q
  obtain ⟨i0, ei0⟩ := is_v hv0
  obtain rfl : w0 = (.int i0) := Option.some.inj ei0
  obtain ⟨i1, ei1⟩ := is_v hv1
  obtain rfl : w1 = (.int i1) := Option.some.inj ei1
  obtain ⟨i2, ei2⟩ := is_v hv2
  obtain rfl : w2 = (.int i2) := Option.some.inj ei2
  obtain ⟨i3, ei3⟩ := is_v hv3
  obtain rfl : w3 = (.int i3) := Option.some.inj ei3
  obtain ⟨i4, ei4⟩ := is_v hv4
  obtain rfl : w4 = (.int i4) := Option.some.inj ei4
  obtain ⟨i5, ei5⟩ := is_v hv5
  obtain rfl : w5 = (.int i5) := Option.some.inj ei5
  obtain ⟨n, o, h1, h2, h3, _, L, rfl, ⟨rfl, N⟩, hq⟩ := rm0 l s _ hw tables_1 i0 i1 i2 i3 i4 i5 s.heap s.heap.size (Nat.le_refl _)  p e ha hc hk s m _ below hf ((Spec.applies_iff_loose hf).mp happ).1 ⟨rfl, State.Warmed39.refl s, rfl⟩ trivial
  refine ⟨n, _, h1, h2, h3, hpost _ _ _ _ _ _ ⟨Cond.after_iff.mpr rfl, Cond.after_iff.mpr (eq_i res_at (Term.int_eval (1)) rfl), trivial⟩ ⟨hq.1, hq.2.1, (hq.2.2.sift fun y hy => Or.inr (N y hy)).mono (by decide) (by decide)⟩⟩
theorem main_1_1 : Claimed_1_1 := comes_1 fun _ _ _ _ _ _ h hF => ⟨h.1, hF⟩
theorem main_1_2 : Claimed_1_2 := comes_1 fun _ _ _ _ _ _ h hF => ⟨h.2.1, hF⟩
end Jvm.Pilot.@@N@@
namespace Jvm.Pilot.@@N@@
open Jvm Jvm.ClassFile Sem Op Lib Jvm.Free Jvm.Stand Jvm.Pilot.@@N@@.Jvm.D
/-! MADE BY PROGRAM (witnessworld.py) out of the Statement's table words and the real class files: 9 classes; the members and pool entries that the words name. The judged class is class 1, her method 3. -/
namespace start1
open Jvm.ClassFile
def u (s : String) : CpInfo := .utf8 (stringToUtf16 s)
/-- a pool by its gaps: so many unusable entries, then the entry; so many at the end -/
def gap : Nat → List CpInfo → List CpInfo
  | 0, r => r
  | n + 1, r => .unusable :: gap n r
def poolList (es : List (Nat × CpInfo)) (last : Nat) : List CpInfo := es.foldr (fun e r => gap e.1 (e.2 :: r)) (gap last [])
def pool (es : List (Nat × CpInfo)) (last : Nat) : Array CpInfo := ⟨poolList es last⟩
def fileOf (pool : Array CpInfo) (this : Nat) (attrs : Array Attribute := #[]) (ms : Array MethodInfo := #[]) (fl : Nat := 33) (sup : Nat := 0) (ifs : Array Nat := #[]) (fds : Array FieldInfo := #[]) : ClassFile where
  minorVersion := 0
  majorVersion := 65
  constantPool := pool
  accessFlags := fl
  thisClass := this
  superClass := sup
  interfaces := ifs
  fields := fds
  methods := ms
  attributes := attrs
def plain (name : String) (sup : Option ClassId) : Class where
  name := name
  kind := .ordinary
  loader := none
  accessFlags := 33
  super := sup
  interfaces := #[]
  cf := none
  fields := #[]
  methods := #[]
  instanceTypes := #[]
  staticTypes := #[]
  resolved := #[]
  callSites := []
  init := .initialized
  statics := none
  mirror := none

def pool0 : Array CpInfo := pool [(5, u "<init>"), (0, u "()V"), (1, .class_ 10), (1, u "java/lang/Object")] 113

def k0c0 : Code := { maxStack := 0, maxLocals := 1, code := object_method_1_code, exceptionTable := #[], attributes := #[] }
def k0m0 : Method := { name := "<init>", desc := "()V", sig := { parameters := [], returnType := none }, accessFlags := 1, code := some k0c0 }
/-- java/lang/Object -/
def k0 : Class := { plain "java/lang/Object" none with
  accessFlags := 33
  interfaces := #[]
  cf := some (fileOf pool0 8 #[] #[{ accessFlags := 1, nameIndex := 5, descriptorIndex := 6, attributes := #[] }] 33 0 #[] #[])
  fields := #[]
  methods := #[k0m0]
  instanceTypes := #[]
  staticTypes := #[]
  resolved := Array.replicate 124 none
  statics := none }

def pool1 : Array CpInfo := pool [(2, .class_ 4), (1, u "java/lang/Object"), (0, u "<init>"), (0, u "()V"), (0, .methodref 8 9), (0, .class_ 10), (0, .nameAndType 11 12), (0, u "com/example/makespun/makespun/planner/evolution/CandidateDistancePinLaw"), (0, u "pick"), (0, u "(IIII)I"), (0, .class_ 14), (0, u "com/example/makespun/makespun/planner/evolution/Candidate"), (0, .methodref 13 16), (0, .nameAndType 5 17), (0, u "([I[IZ)V"), (0, .methodref 8 19), (0, .nameAndType 20 21), (0, u "ne"), (0, u "(II)I"), (0, .methodref 13 23), (0, .nameAndType 24 25), (0, u "distance"), (0, u "(Lcom/example/makespun/makespun/planner/evolution/Candidate;)I"), (3, u "law"), (0, u "(IIIIII)Z")] 4

def k1m0 : Method := { name := "<init>", desc := "()V", sig := { parameters := [], returnType := none }, accessFlags := 1, code := none }
def k1c1 : Code := { maxStack := 2, maxLocals := 2, code := method_2_code, exceptionTable := #[], attributes := #[] }
def k1m1 : Method := { name := "ne", desc := "(II)I", sig := { parameters := [.int, .int], returnType := some .int }, accessFlags := 10, code := some k1c1 }
def k1c2 : Code := { maxStack := 2, maxLocals := 4, code := method_3_code, exceptionTable := #[], attributes := #[] }
def k1m2 : Method := { name := "pick", desc := "(IIII)I", sig := { parameters := [.int, .int, .int, .int], returnType := some .int }, accessFlags := 10, code := some k1c2 }
def k1c3 : Code := { maxStack := 6, maxLocals := 18, code := code, exceptionTable := #[], attributes := #[] }
def k1m3 : Method := { name := "law", desc := "(IIIIII)Z", sig := { parameters := [.int, .int, .int, .int, .int, .int], returnType := some .boolean }, accessFlags := 9, code := some k1c3 }
/-- com/example/makespun/makespun/planner/evolution/CandidateDistancePinLaw -/
def k1 : Class := { plain "com/example/makespun/makespun/planner/evolution/CandidateDistancePinLaw" (some 0) with
  accessFlags := 49
  interfaces := #[]
  cf := some (fileOf pool1 8 #[] #[{ accessFlags := 1, nameIndex := 5, descriptorIndex := 6, attributes := #[] }, { accessFlags := 10, nameIndex := 20, descriptorIndex := 21, attributes := #[] }, { accessFlags := 10, nameIndex := 11, descriptorIndex := 12, attributes := #[] }, { accessFlags := 9, nameIndex := 29, descriptorIndex := 30, attributes := #[] }] 49 2 #[] #[])
  fields := #[]
  methods := #[k1m0, k1m1, k1m2, k1m3]
  instanceTypes := #[]
  staticTypes := #[]
  resolved := Array.replicate 35 none
  statics := none }

def pool2 : Array CpInfo := pool [(1, .methodref 2 3), (0, .class_ 4), (0, .nameAndType 5 6), (0, u "java/lang/Object"), (0, u "<init>"), (0, u "()V"), (2, .double 9221120237041090560), (1, .fieldref 12 13), (0, .class_ 14), (0, .nameAndType 15 16), (0, u "com/example/makespun/makespun/planner/evolution/Candidate"), (0, u "fitness"), (0, u "D"), (0, .fieldref 12 18), (0, .nameAndType 19 20), (0, u "allocation"), (0, u "[I"), (0, .fieldref 12 22), (0, .nameAndType 23 20), (0, u "order"), (0, .fieldref 12 25), (0, .nameAndType 26 27), (0, u "fits"), (0, u "Z"), (0, u "([I[IZ)V"), (10, u "distance"), (0, u "(Lcom/example/makespun/makespun/planner/evolution/Candidate;)I")] 2

def k2c0 : Code := { maxStack := 3, maxLocals := 4, code := prog_32_method_1_code, exceptionTable := #[], attributes := #[] }
def k2m0 : Method := { name := "<init>", desc := "([I[IZ)V", sig := { parameters := [(.array .int), (.array .int), .boolean], returnType := none }, accessFlags := 0, code := some k2c0 }
def k2c1 : Code := { maxStack := 3, maxLocals := 4, code := prog_32_method_8_code, exceptionTable := #[], attributes := #[] }
def k2m1 : Method := { name := "distance", desc := "(Lcom/example/makespun/makespun/planner/evolution/Candidate;)I", sig := { parameters := [(.object "com/example/makespun/makespun/planner/evolution/Candidate")], returnType := some .int }, accessFlags := 0, code := some k2c1 }
/-- com/example/makespun/makespun/planner/evolution/Candidate -/
def k2 : Class := { plain "com/example/makespun/makespun/planner/evolution/Candidate" (some 0) with
  accessFlags := 48
  interfaces := #[]
  cf := some (fileOf pool2 12 #[] #[{ accessFlags := 0, nameIndex := 5, descriptorIndex := 28, attributes := #[] }, { accessFlags := 0, nameIndex := 39, descriptorIndex := 40, attributes := #[] }] 48 2 #[] #[{ accessFlags := 18, nameIndex := 19, descriptorIndex := 20, attributes := #[] }, { accessFlags := 18, nameIndex := 23, descriptorIndex := 20, attributes := #[] }, { accessFlags := 18, nameIndex := 26, descriptorIndex := 27, attributes := #[] }, { accessFlags := 2, nameIndex := 15, descriptorIndex := 16, attributes := #[] }])
  fields := #[{ name := "allocation", type := (.array .int), accessFlags := 18, slot := 0, constantValue := 0 }, { name := "order", type := (.array .int), accessFlags := 18, slot := 1, constantValue := 0 }, { name := "fits", type := .boolean, accessFlags := 18, slot := 2, constantValue := 0 }, { name := "fitness", type := .double, accessFlags := 2, slot := 3, constantValue := 0 }]
  methods := #[k2m0, k2m1]
  instanceTypes := #[(.array .int), (.array .int), .boolean, .double]
  staticTypes := #[]
  resolved := Array.replicate 43 none
  statics := none }

def pool3 : Array CpInfo := pool [(1, u "java/lang/Cloneable"), (0, .class_ 1), (0, u "java/lang/Object"), (0, .class_ 3)] 3

/-- java/lang/Cloneable -/
def k3 : Class := { plain "java/lang/Cloneable" (some 0) with
  accessFlags := 1537
  interfaces := #[]
  cf := some (fileOf pool3 2 #[] #[] 1537 4 #[] #[])
  fields := #[]
  methods := #[]
  instanceTypes := #[]
  staticTypes := #[]
  resolved := Array.replicate 8 none
  statics := none }

def pool4 : Array CpInfo := pool [(1, u "java/io/Serializable"), (0, .class_ 1), (0, u "java/lang/Object"), (0, .class_ 3)] 3

/-- java/io/Serializable -/
def k4 : Class := { plain "java/io/Serializable" (some 0) with
  accessFlags := 1537
  interfaces := #[]
  cf := some (fileOf pool4 2 #[] #[] 1537 4 #[] #[])
  fields := #[]
  methods := #[]
  instanceTypes := #[]
  staticTypes := #[]
  resolved := Array.replicate 8 none
  statics := none }

/-- the primitive byte -/
def k5 : Class := { plain "byte" none with kind := .primitive 'B', accessFlags := 0x411 }
/-- [B -/
def k6 : Class := { plain "[B" (some 0) with kind := .array 5 .byte, interfaces := #[3, 4], accessFlags := 1041 }

/-- the primitive int -/
def k7 : Class := { plain "int" none with kind := .primitive 'I', accessFlags := 0x411 }
/-- [I -/
def k8 : Class := { plain "[I" (some 0) with kind := .array 7 .int, interfaces := #[3, 4], accessFlags := 1041 }

def heap : Heap := #[]
def classes : Array Class := #[k0, k1, k2, k3, k4, k5, k6, k7, k8]
def interned : List (Array UInt16 × Addr) := []
def slotsUsed : Nat := 0
def theMethod : MethodId := ⟨1, 3⟩
def args0 : Array Value := #[.int 1, .int 2, .int 3, .int 4, .int 5, .int 6]
def aboutOver (below : List Frame) : State where
  vm := { classes := classes, interned := interned.toArray }
  heap := heap
  slotsUsed := slotsUsed
  threads := #[{ frames := .invoking theMethod args0 :: below }]
def below0 : List Frame := [.native { method := ⟨0, 0⟩, args := #[] }]
def about1 : State := aboutOver below0
def p0 : Program := .bare "" "" ""
def e0 : Env := launch0.env 0 0 0
theorem w_frames : about1.frames = Frame.invoking theMethod args0 :: below0 := rfl
set_option maxRecDepth 65536 in
theorem w_args : argsFit about1.vm theMethod args0 = true := by decide +kernel
set_option maxRecDepth 65536 in
theorem w_heap : heapFits about1 = true := by decide +kernel
set_option maxRecDepth 65536 in
theorem w_runnable : about1.curStatus? = some .runnable := by decide +kernel
set_option maxRecDepth 65536 in
theorem w_alone : about1.alone = true := by decide +kernel
set_option maxRecDepth 65536 in
theorem w_named : about1.methodNamed? x = some theMethod := by decide +kernel
set_option maxRecDepth 65536 in
theorem w_hears : about1.hears theMethod below0 = true := by decide +kernel
set_option maxRecDepth 65536 in
theorem w_ripe : about1.ripe theMethod args0 below0 = true := by decide +kernel
theorem w_running : about1.status = .running := rfl
set_option maxRecDepth 65536 in
theorem w_room : about1.hasRoom e0.platform room_1 = true :=
  launch0.hasRoom_least _ room_1 (by decide +kernel) (by decide +kernel) (by decide +kernel) (by decide +kernel) (by decide +kernel) (by decide +kernel)
theorem allAtoms_all (ts : List Jvm.Cond) (a : Array Jvm.Value) (st : Jvm.State) : (allAtoms ts).before a st = ts.all (fun c => c.before a st) := by
  induction ts with
  | nil => rfl
  | cons c t ih =>
    show (Jvm.Cond.and c (allAtoms t)).before a st = _
    rw [Jvm.Cond.before_and, ih, List.all_cons]
def words1 : List Jvm.Cond := Jvm.Cond.code x code maxLocals ret :: tables_1
/-- a 'code' word, met by the world's own term for the bytes: nothing is compared byte by byte -/
theorem code_word {y : MethodName} {bytes : ByteArray} {mx : Nat} {rt : Option FieldType} {a : Array Value} {s : State} {m : MethodId} {meth : Method} {c : Code} (h1 : s.methodNamed? y = some m) (h2 : s.vm.method? m = some meth) (h3 : meth.code = some c) (h4 : c.code = bytes)
    (h5 : (c.maxLocals == mx && c.exceptionTable.isEmpty && decide (c.maxStack ≤ mostOperands) && decide (meth.sig.returnType = rt) && !meth.locks && decide (parseMethodDescriptor y.desc = some meth.sig)) = true) : (Jvm.Cond.code y bytes mx rt).before a s = true := by
  simp only [Bool.and_eq_true, beq_iff_eq, Bool.not_eq_true', decide_eq_true_eq] at h5
  obtain ⟨⟨⟨⟨⟨g1, g2⟩, g3⟩, g4⟩, g5⟩, g6⟩ := h5
  simp [Cond.before, Cond.holds, Cond.value, h1, h2, h3, h4, g1, g2, g3, g4, g5, g6]
def isCode : Jvm.Cond → Bool
  | .code _ _ _ _ => true
  | _ => false
theorem all_split {L : List Jvm.Cond} {P : Jvm.Cond → Bool} (h1 : L.all (fun c => isCode c || P c) = true) (h2 : ∀ c ∈ L.filter isCode, P c = true) : L.all P = true := by
  refine List.all_eq_true.mpr fun c hc => ?_
  have h := List.all_eq_true.mp h1 c hc
  rcases Bool.eq_false_or_eq_true (isCode c) with hi | hi
  · exact h2 c (List.mem_filter.mpr ⟨hc, hi⟩)
  · simpa [hi] using h
set_option maxRecDepth 65536 in
theorem w_c0 : (Jvm.Cond.code x code maxLocals ret).before args0 about1 = true := code_word (m := ⟨1, 3⟩) (meth := k1m3) (c := k1c3) (by decide +kernel) rfl rfl rfl (by decide +kernel)
set_option maxRecDepth 65536 in
theorem w_c1 : (Jvm.Cond.code ({ cls := "com/example/makespun/makespun/planner/evolution/CandidateDistancePinLaw", name := "pick", desc := "(IIII)I" } : Jvm.MethodName) method_3_code (4 : Nat) (Option.some Jvm.ClassFile.FieldType.int)).before args0 about1 = true := code_word (m := ⟨1, 2⟩) (meth := k1m2) (c := k1c2) (by decide +kernel) rfl rfl rfl (by decide +kernel)
set_option maxRecDepth 65536 in
theorem w_c2 : (Jvm.Cond.code ({ cls := "com/example/makespun/makespun/planner/evolution/Candidate", name := "<init>", desc := "([I[IZ)V" } : Jvm.MethodName) prog_32_method_1_code (4 : Nat) (Option.none : Option Jvm.ClassFile.FieldType)).before args0 about1 = true := code_word (m := ⟨2, 0⟩) (meth := k2m0) (c := k2c0) (by decide +kernel) rfl rfl rfl (by decide +kernel)
set_option maxRecDepth 65536 in
theorem w_c3 : (Jvm.Cond.code ({ cls := "java/lang/Object", name := "<init>", desc := "()V" } : Jvm.MethodName) object_method_1_code (1 : Nat) (Option.none : Option Jvm.ClassFile.FieldType)).before args0 about1 = true := code_word (m := ⟨0, 0⟩) (meth := k0m0) (c := k0c0) (by decide +kernel) rfl rfl rfl (by decide +kernel)
set_option maxRecDepth 65536 in
theorem w_c4 : (Jvm.Cond.code ({ cls := "com/example/makespun/makespun/planner/evolution/CandidateDistancePinLaw", name := "ne", desc := "(II)I" } : Jvm.MethodName) method_2_code (2 : Nat) (Option.some Jvm.ClassFile.FieldType.int)).before args0 about1 = true := code_word (m := ⟨1, 1⟩) (meth := k1m1) (c := k1c1) (by decide +kernel) rfl rfl rfl (by decide +kernel)
set_option maxRecDepth 65536 in
theorem w_c5 : (Jvm.Cond.code ({ cls := "com/example/makespun/makespun/planner/evolution/Candidate", name := "distance", desc := "(Lcom/example/makespun/makespun/planner/evolution/Candidate;)I" } : Jvm.MethodName) prog_32_method_8_code (4 : Nat) (Option.some Jvm.ClassFile.FieldType.int)).before args0 about1 = true := code_word (m := ⟨2, 1⟩) (meth := k2m1) (c := k2c1) (by decide +kernel) rfl rfl rfl (by decide +kernel)
def codes1 : List Jvm.Cond := [Jvm.Cond.code x code maxLocals ret, Jvm.Cond.code ({ cls := "com/example/makespun/makespun/planner/evolution/CandidateDistancePinLaw", name := "pick", desc := "(IIII)I" } : Jvm.MethodName) method_3_code (4 : Nat) (Option.some Jvm.ClassFile.FieldType.int), Jvm.Cond.code ({ cls := "com/example/makespun/makespun/planner/evolution/Candidate", name := "<init>", desc := "([I[IZ)V" } : Jvm.MethodName) prog_32_method_1_code (4 : Nat) (Option.none : Option Jvm.ClassFile.FieldType), Jvm.Cond.code ({ cls := "java/lang/Object", name := "<init>", desc := "()V" } : Jvm.MethodName) object_method_1_code (1 : Nat) (Option.none : Option Jvm.ClassFile.FieldType), Jvm.Cond.code ({ cls := "com/example/makespun/makespun/planner/evolution/CandidateDistancePinLaw", name := "ne", desc := "(II)I" } : Jvm.MethodName) method_2_code (2 : Nat) (Option.some Jvm.ClassFile.FieldType.int), Jvm.Cond.code ({ cls := "com/example/makespun/makespun/planner/evolution/Candidate", name := "distance", desc := "(Lcom/example/makespun/makespun/planner/evolution/Candidate;)I" } : Jvm.MethodName) prog_32_method_8_code (4 : Nat) (Option.some Jvm.ClassFile.FieldType.int)]
set_option maxRecDepth 65536 in
theorem codes_eq : words1.filter isCode = codes1 := rfl
theorem w_codes : ∀ c ∈ words1.filter isCode, c.before args0 about1 = true := by
  rw [codes_eq]
  intro c hc
  simp only [codes1, List.mem_cons, List.not_mem_nil, or_false] at hc
  rcases hc with rfl | rfl | rfl | rfl | rfl | rfl
  · exact w_c0
  · exact w_c1
  · exact w_c2
  · exact w_c3
  · exact w_c4
  · exact w_c5
set_option maxRecDepth 65536 in
theorem w_t1 : (words1.take 24).all (fun c => isCode c || c.before args0 about1) = true := by decide +kernel
set_option maxRecDepth 65536 in
theorem w_t2 : (words1.drop 24).all (fun c => isCode c || c.before args0 about1) = true := by decide +kernel
theorem w_tables : (allAtoms (Jvm.Cond.code x code maxLocals ret :: tables_1)).before args0 about1 = true := by
  rw [allAtoms_all]
  show words1.all (fun c => c.before args0 about1) = true
  refine all_split ?_ w_codes
  rw [← List.take_append_drop 24 words1, List.all_append, w_t1, w_t2]
  rfl
set_option maxRecDepth 65536 in
theorem w_case : (Jvm.Cond.and given_1 narrow_1).before args0 about1 = true := by decide +kernel
theorem w_applies : (headSpec (Jvm.Cond.code x code maxLocals ret :: tables_1) room_1).applies x e0.platform about1 = true :=
  (Spec.applies_iff w_frames).mpr ⟨w_running, w_runnable, w_alone, w_named, w_hears, w_ripe, w_room, w_tables⟩
theorem atStart : AtStart classFile x code maxLocals ret World_1 tables_1 room_1 Calls_1 rest_1 Pre_1 launch0 p0 e0 about1 theMethod args0 below0 :=
  ⟨lists_1, trivial, launch0.admits_env _ _ _, launch0.least_env, fairChoices_fair.cas, fairChoices_fair.clock, w_frames, w_args, w_heap, w_applies, trivial, trivial, w_case⟩
end start1
theorem witness_1 : WitnessClaimed_1 := ⟨start1.p0, start1.e0, start1.about1, start1.theMethod, start1.args0, start1.below0, start1.atStart⟩
end Jvm.Pilot.@@N@@
