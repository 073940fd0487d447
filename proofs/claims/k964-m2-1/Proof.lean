import JvmDerived
import JvmDerived.Pilot.@@N@@Statement
import JvmDerived.Pilot.@@N@@Code
set_option linter.unusedVariables false
set_option linter.unusedSimpArgs false
namespace Jvm.RoadKit
open Sem ClassFile Op Lib Jvm.Stand Jvm.Free Jvm.LawKit
section New
variable {p : Program} {l : Launch} {e : Env} {R : Room} {s : State} {m : MethodId} {args : Array Value} {below : List Frame} {meth : Method} {c : Code} {T : State} {locs : List Loc} {cells slots : Nat}
theorem retI (X : Stand p l e R s m args below meth c T locs cells slots) (hx : p.tables.exec = Jvm.exec) {pc : Nat} {Ls : Array Slot} {z : Int32} {rest : List Value} (hret : meth.sig.returnType = some .int) (hd : decode c.code pc = .ok (.ireturn, 1)) {fs : List Frame}
    (hl : ∀ (f : JFrame) (acts : List Action), f.method = m → f.locked = none → f.entered = [] → (doReturn e (T.setTop f) acts (some (.int z))).1 = T.setFrames fs) : Steps p.tables e below (T.setTop (mkF m pc Ls (.int z :: rest))) (T.setFrames fs) :=
  retOut X hx hret rfl (Or.inl ⟨rfl, Or.inl rfl, z, rfl⟩) hd hl
end New
end Jvm.RoadKit
namespace Jvm.Pilot.@@N@@
open Jvm Jvm.ClassFile Sem Op Lib Jvm.Free Jvm.Stand Jvm.LawKit Jvm.RoadKit Bundle Jvm.Pilot.@@N@@.Jvm.D
theorem own_mask (x : Int64) : ¬ (x &&& (9223372036854775807 : Int64)) < 0 := fun q => absurd ((Jvm.Free.XT.and_neg64 _ _).mp q).2 (by decide)
def own_vr (q : Int64) : Int64 := if lcmpW (q &&& (9223372036854775807 : Int64)) (0 : Int64) = 0 then (1 : Int64) else (q &&& (9223372036854775807 : Int64))
theorem own_vr_pos (q : Int64) : (0 : Int64) < own_vr q := by
  unfold own_vr
  split
  · decide
  · rename_i h
    rw [lw_eq] at h
    have m := own_mask q
    generalize (q &&& (9223372036854775807 : Int64)) = y at *
    rw [Int64.lt_iff_toInt_lt] at m ⊢
    have z : ¬ y.toInt = (0 : Int64).toInt := fun e => h (Int64.toInt_inj.mp e)
    omega
def own_eq (ra da rb db : Int64) : Int32 := if lcmpW rb ra = 0 then (if lcmpW db da = 0 then 1 else 0) else 0
theorem own_eq_iff (ra da rb db : Int64) : own_eq ra da rb db = if rb = ra ∧ db = da then 1 else 0 := by
  unfold own_eq
  by_cases h1 : rb = ra
  · by_cases h2 : db = da
    · rw [if_pos ((lw_eq _ _).mpr h1), if_pos ((lw_eq _ _).mpr h2), if_pos ⟨h1, h2⟩]
    · rw [if_pos ((lw_eq _ _).mpr h1), if_neg (fun q => h2 ((lw_eq _ _).mp q)), if_neg (fun q => h2 q.2)]
  · rw [if_neg (fun q => h1 ((lw_eq _ _).mp q)), if_neg (fun q => h1 q.1)]
def own_QJ (r : Int64) (Z : State) (h0 : Heap) (n0 : Nat) (v : Option Value) (h : Heap) (L : List Loc) : Prop := v = some (.long r) ∧ Fr n0 L ∧ h = h0
def own_QI (r : Int32) (Z : State) (h0 : Heap) (n0 : Nat) (v : Option Value) (h : Heap) (L : List Loc) : Prop := v = some (.int r) ∧ Fr n0 L ∧ h = h0
def own_lh (q : Int64) : Int32 := ((q ^^^ ((q.toUInt64 >>> ((32 : Int32) &&& 0x3f).toInt64.toUInt64).toInt64)).toInt32)
def own_fo (q : Int64) : Int32 := ((q.toInt32) ^^^ (((q.toUInt64 >>> ((32 : Int32) &&& 0x3f).toInt64.toUInt64).toInt64).toInt32))
theorem own_lh_fo (q : Int64) : own_lh q = own_fo q := Int64.toInt32_xor _ _
def own_ha (r d : Int64) : Int32 := own_lh r * (31 : Int32) + own_lh d
def own_hf (r d : Int64) : Int32 := own_fo r * (31 : Int32) + own_fo d
theorem own_ha_hf (r d : Int64) : own_ha r d = own_hf r d := by unfold own_ha own_hf; rw [own_lh_fo, own_lh_fo]
def own_Q5 (Z : State) (q1 : Int64) := own_QI (own_lh q1) Z
def own_Q6 (Z : State) (q1 : Int64) := own_QI (own_fo q1) Z
def own_Q4 (Z : State) (a1 : Addr) (r d : Int64) := own_QI (own_ha r d) Z
def own_Q1 (Z : State) (q1 : Int64) := own_QJ (own_vr q1) Z
theorem d1_0 : decode method_3_code 0 = .ok (.lload_n 0, 1) := by decide +kernel
theorem d1_1 : decode method_3_code 1 = .ok (.ldc2_w 9, 3) := by decide +kernel
theorem d1_4 : decode method_3_code 4 = .ok (.land, 1) := by decide +kernel
theorem d1_5 : decode method_3_code 5 = .ok (.lstore_n 2, 1) := by decide +kernel
theorem d1_6 : decode method_3_code 6 = .ok (.lload_n 2, 1) := by decide +kernel
theorem d1_7 : decode method_3_code 7 = .ok (.lconst 0, 1) := by decide +kernel
theorem d1_8 : decode method_3_code 8 = .ok (.lcmp, 1) := by decide +kernel
theorem d1_9 : decode method_3_code 9 = .ok (.ifCond .ne 5, 3) := by decide +kernel
theorem d1_12 : decode method_3_code 12 = .ok (.lconst 1, 1) := by decide +kernel
theorem d1_13 : decode method_3_code 13 = .ok (.lstore_n 2, 1) := by decide +kernel
theorem d1_14 : decode method_3_code 14 = .ok (.lload_n 2, 1) := by decide +kernel
theorem d1_15 : decode method_3_code 15 = .ok (.lreturn, 1) := by decide +kernel
theorem pn_1 : plainName "com/example/tollwright/tollwright/planner/ContractHashCodePinLaw" = true := by first | (simp [plainName, overriddenIn]; done) | decide +kernel
theorem ef_1 (m : MethodId) (x0 : Int64) : entryFrame m #[(.long x0)] 4 = mkF m 0 #[.val (.long x0), .second, .unset, .unset] [] := by first | (simp [entryFrame, mkF, argsToLocals, Value.category]; done) | rfl
set_option maxRecDepth 65536 in
set_option maxHeartbeats 40000000 in
theorem rm1 (l : Launch) (Z : State) (a0 : Array Value) (hw : ∀ d ∈ tables_1, d.before a0 Z = true) (ws : List Jvm.Cond) (q1 : Int64) (h0 : Heap) (n0 : Nat) (Z0 : n0 ≤ h0.size) :
    MetFree l (⟨"com/example/tollwright/tollwright/planner/ContractHashCodePinLaw", "validRate", "(J)J"⟩ : MethodName) (head1 (Jvm.Cond.code (⟨"com/example/tollwright/tollwright/planner/ContractHashCodePinLaw", "validRate", "(J)J"⟩ : MethodName) method_3_code 4 (some .long) :: ws) ({ frames := 0, cells := 0, slots := 0, locals := 0 } : Room)) (fun a U => a = #[(.long q1)] ∧ Z.Warmed39 U.vm ∧ U.heap = h0) (fun _ _ _ _ _ => True) (fun _ U o U' => ∃ v L, o = .returned v ∧ own_Q1 Z q1 h0 n0 v U'.heap L ∧ FrameEnd U o U' L ({ frames := 0, cells := 0, slots := 0, locals := 0 } : Room).cells ({ frames := 0, cells := 0, slots := 0, locals := 0 } : Room).slots) := by
  refine MetFree.of_bodySF (plainFor_of_name pn_1) hisR ?_
  intro p e s m args below meth c s₁ Bd hml0 hP hK
  obtain ⟨rfl, hZ, hh⟩ := hP
  have hx := Bd.exec
  have hby := Bd.bytes
  have hml : c.maxLocals = 4 := hml0
  have hown : s.vm.findClass "com/example/tollwright/tollwright/planner/ContractHashCodePinLaw" = some m.cls := findClass_of_methodNamed Bd.named
  have hnm := (name_of_methodNamed Bd.named Bd.method).1
  have X0 : Stand p l e ({ frames := 0, cells := 0, slots := 0, locals := 0 } : Room) s m #[(.long q1)] below meth c s₁ [] 0 0 := Stand.of_body Bd
  have e0 : s₁.heap = h0 := by rw [← hh, Bd.state]; rfl
  have N0 := Fr.nil n0
  have pre0 : ∀ tq, Steps p.tables e below (s₁.setTop (mkF m 0 #[.val (.long q1), .second, .unset, .unset] [])) tq → Steps p.tables e below (s₁.setTop (entryFrame m #[(.long q1)] 4)) tq := fun tq k => castTop (ef_1 m q1) k
  have k1 : ∀ tq, Steps p.tables e below (s₁.setTop (mkF m 9 #[.val (.long q1), .second, .val (.long (q1 &&& (9223372036854775807 : Int64))), .second] [(.int (lcmpW (q1 &&& (9223372036854775807 : Int64)) (0 : Int64)))])) tq → Steps p.tables e below (s₁.setTop (entryFrame m #[(.long q1)] 4)) tq := by
    intro tq kt
    refine pre0 tq ?_
    show Steps p.tables e below (s₁.setTop (mkF m 0 #[.val (.long q1), .second, .unset, .unset] [])) _
    refine XS.lloadN X0.here hx rfl (hb hby d1_0) rfl ?_
    show Steps p.tables e below (s₁.setTop (mkF m 1 #[.val (.long q1), .second, .unset, .unset] [(.long q1)])) _
    refine X0.ldc2Long hx hown (mvT hZ (hw _ (List.mem_of_getElem? (i := 4) rfl))) (g := (mkF m 1 #[.val (.long q1), .second, .unset, .unset] [(.long q1)])) rfl (hb hby d1_1) _ ?_
    show Steps p.tables e below (s₁.setTop (mkF m 4 #[.val (.long q1), .second, .unset, .unset] [(.long (9223372036854775807 : Int64)), (.long q1)])) _
    refine XS.land X0.here hx rfl (hb hby d1_4) rfl ?_
    show Steps p.tables e below (s₁.setTop (mkF m 5 #[.val (.long q1), .second, .unset, .unset] [(.long (q1 &&& (9223372036854775807 : Int64)))])) _
    refine XS.lstoreN X0.here hx rfl (hb hby d1_5) rfl (l' := #[.val (.long q1), .second, .val (.long (q1 &&& (9223372036854775807 : Int64))), .second]) rfl ?_
    show Steps p.tables e below (s₁.setTop (mkF m 6 #[.val (.long q1), .second, .val (.long (q1 &&& (9223372036854775807 : Int64))), .second] [])) _
    refine XS.lloadN X0.here hx rfl (hb hby d1_6) rfl ?_
    show Steps p.tables e below (s₁.setTop (mkF m 7 #[.val (.long q1), .second, .val (.long (q1 &&& (9223372036854775807 : Int64))), .second] [(.long (q1 &&& (9223372036854775807 : Int64)))])) _
    refine XS.lconst X0.here hx rfl (hb hby d1_7) ?_
    show Steps p.tables e below (s₁.setTop (mkF m 8 #[.val (.long q1), .second, .val (.long (q1 &&& (9223372036854775807 : Int64))), .second] [(.long (0 : Int64)), (.long (q1 &&& (9223372036854775807 : Int64)))])) _
    refine XS.lcmp X0.here hx rfl (hb hby d1_8) rfl ?_
    exact kt
  by_cases hc2 : (lcmpW (q1 &&& (9223372036854775807 : Int64)) (0 : Int64)) = (0 : Int32)
  · obtain ⟨fs, hr, hrun, hended, hW, hsame⟩ := X0.leave (v := some (.long (1 : Int64))) (fun h => by rw [Bd.returns] at h; cases h)
    refine ⟨_, _, k1 _ ?_, hrun, hended, _, _, rfl, ?_, ⟨_, rfl⟩, hW, hsame.mono (by decide) (by decide)⟩
    · show Steps p.tables e below (s₁.setTop (mkF m 9 #[.val (.long q1), .second, .val (.long (q1 &&& (9223372036854775807 : Int64))), .second] [(.int (lcmpW (q1 &&& (9223372036854775807 : Int64)) (0 : Int64)))])) _
      refine XS.ifNo X0.here hx rfl (hb hby d1_9) rfl ((if0 _ _).trans (teq hc2).2) ?_
      show Steps p.tables e below (s₁.setTop (mkF m 12 #[.val (.long q1), .second, .val (.long (q1 &&& (9223372036854775807 : Int64))), .second] [])) _
      refine XS.lconst X0.here hx rfl (hb hby d1_12) ?_
      show Steps p.tables e below (s₁.setTop (mkF m 13 #[.val (.long q1), .second, .val (.long (q1 &&& (9223372036854775807 : Int64))), .second] [(.long (1 : Int64))])) _
      refine XS.lstoreN X0.here hx rfl (hb hby d1_13) rfl (l' := #[.val (.long q1), .second, .val (.long (1 : Int64)), .second]) rfl ?_
      show Steps p.tables e below (s₁.setTop (mkF m 14 #[.val (.long q1), .second, .val (.long (1 : Int64)), .second] [])) _
      refine XS.lloadN X0.here hx rfl (hb hby d1_14) rfl ?_
      show Steps p.tables e below (s₁.setTop (mkF m 15 #[.val (.long q1), .second, .val (.long (1 : Int64)), .second] [(.long (1 : Int64))])) _
      exact retOut X0 hx Bd.returns rfl (Or.inr (Or.inl ⟨rfl, rfl, _, rfl⟩)) (hb hby d1_15) hr
    · show own_Q1 Z q1 h0 n0 _ s₁.heap _
      rw [e0]
      exact ⟨congrArg (fun z => some (Value.long z)) (show (1 : Int64) = own_vr q1 from by unfold own_vr; rw [if_pos hc2]), N0, rfl⟩
  · obtain ⟨fs, hr, hrun, hended, hW, hsame⟩ := X0.leave (v := some (.long (q1 &&& (9223372036854775807 : Int64)))) (fun h => by rw [Bd.returns] at h; cases h)
    refine ⟨_, _, k1 _ ?_, hrun, hended, _, _, rfl, ?_, ⟨_, rfl⟩, hW, hsame.mono (by decide) (by decide)⟩
    · show Steps p.tables e below (s₁.setTop (mkF m 9 #[.val (.long q1), .second, .val (.long (q1 &&& (9223372036854775807 : Int64))), .second] [(.int (lcmpW (q1 &&& (9223372036854775807 : Int64)) (0 : Int64)))])) _
      refine XS.ifYes X0.here hx rfl (pc0 := 9) (pc' := 14) rfl (hb hby d1_9) rfl ((if0 _ _).trans (feq hc2).2) (by decide) (by decide) ?_
      show Steps p.tables e below (s₁.setTop (mkF m 14 #[.val (.long q1), .second, .val (.long (q1 &&& (9223372036854775807 : Int64))), .second] [])) _
      refine XS.lloadN X0.here hx rfl (hb hby d1_14) rfl ?_
      show Steps p.tables e below (s₁.setTop (mkF m 15 #[.val (.long q1), .second, .val (.long (q1 &&& (9223372036854775807 : Int64))), .second] [(.long (q1 &&& (9223372036854775807 : Int64)))])) _
      exact retOut X0 hx Bd.returns rfl (Or.inr (Or.inl ⟨rfl, rfl, _, rfl⟩)) (hb hby d1_15) hr
    · show own_Q1 Z q1 h0 n0 _ s₁.heap _
      rw [e0]
      exact ⟨congrArg (fun z => some (Value.long z)) (show (q1 &&& (9223372036854775807 : Int64)) = own_vr q1 from by unfold own_vr; rw [if_neg hc2]), N0, rfl⟩
def own_Q2 (Z : State) (a1 : Addr) (q2 q3 : Int64) (h0 : Heap) (n0 : Nat) (v : Option Value) (h : Heap) (L : List Loc) : Prop := v = none ∧ Fr n0 L ∧ Keep h0 h [a1] ∧ Exa Z h a1 "com/example/tollwright/tollwright/planner/Contract" ∧ Fld Z h a1 "com/example/tollwright/tollwright/planner/Contract" "rate" "J" (.long q2) ∧ Fld Z h a1 "com/example/tollwright/tollwright/planner/Contract" "depth" "J" (.long q3)
theorem d2_0 : decode prog_27_method_1_code 0 = .ok (.aload_n 0, 1) := by decide +kernel
theorem d2_1 : decode prog_27_method_1_code 1 = .ok (.invokespecial 1, 3) := by decide +kernel
theorem d2_4 : decode prog_27_method_1_code 4 = .ok (.lload_n 1, 1) := by decide +kernel
theorem d2_5 : decode prog_27_method_1_code 5 = .ok (.lconst 0, 1) := by decide +kernel
theorem d2_6 : decode prog_27_method_1_code 6 = .ok (.lcmp, 1) := by decide +kernel
theorem d2_7 : decode prog_27_method_1_code 7 = .ok (.ifCond .gt 17, 3) := by decide +kernel
theorem d2_10 : decode prog_27_method_1_code 10 = .ok (.new 7, 3) := by decide +kernel
theorem d2_13 : decode prog_27_method_1_code 13 = .ok (.dup, 1) := by decide +kernel
theorem d2_14 : decode prog_27_method_1_code 14 = .ok (.lload_n 1, 1) := by decide +kernel
theorem d2_20 : decode prog_27_method_1_code 20 = .ok (.invokespecial 13, 3) := by decide +kernel
theorem d2_23 : decode prog_27_method_1_code 23 = .ok (.athrow, 1) := by decide +kernel
theorem d2_24 : decode prog_27_method_1_code 24 = .ok (.lload_n 3, 1) := by decide +kernel
theorem d2_25 : decode prog_27_method_1_code 25 = .ok (.lconst 0, 1) := by decide +kernel
theorem d2_26 : decode prog_27_method_1_code 26 = .ok (.lcmp, 1) := by decide +kernel
theorem d2_27 : decode prog_27_method_1_code 27 = .ok (.ifCond .ge 17, 3) := by decide +kernel
theorem d2_30 : decode prog_27_method_1_code 30 = .ok (.new 7, 3) := by decide +kernel
theorem d2_33 : decode prog_27_method_1_code 33 = .ok (.dup, 1) := by decide +kernel
theorem d2_34 : decode prog_27_method_1_code 34 = .ok (.lload_n 3, 1) := by decide +kernel
theorem d2_40 : decode prog_27_method_1_code 40 = .ok (.invokespecial 13, 3) := by decide +kernel
theorem d2_43 : decode prog_27_method_1_code 43 = .ok (.athrow, 1) := by decide +kernel
theorem d2_44 : decode prog_27_method_1_code 44 = .ok (.aload_n 0, 1) := by decide +kernel
theorem d2_45 : decode prog_27_method_1_code 45 = .ok (.lload_n 1, 1) := by decide +kernel
theorem d2_46 : decode prog_27_method_1_code 46 = .ok (.putfield 17, 3) := by decide +kernel
theorem d2_49 : decode prog_27_method_1_code 49 = .ok (.aload_n 0, 1) := by decide +kernel
theorem d2_50 : decode prog_27_method_1_code 50 = .ok (.lload_n 3, 1) := by decide +kernel
theorem d2_51 : decode prog_27_method_1_code 51 = .ok (.putfield 23, 3) := by decide +kernel
theorem d2_54 : decode prog_27_method_1_code 54 = .ok (.return_, 1) := by decide +kernel
theorem pn_2 : plainName "com/example/tollwright/tollwright/planner/Contract" = true := by first | (simp [plainName, overriddenIn]; done) | decide +kernel
theorem ef_2 (m : MethodId) (x0 : Addr) (x1 : Int64) (x2 : Int64) : entryFrame m #[(.ref x0), (.long x1), (.long x2)] 5 = mkF m 0 #[.val (.ref x0), .val (.long x1), .second, .val (.long x2), .second] [] := by first | (simp [entryFrame, mkF, argsToLocals, Value.category]; done) | rfl
set_option maxRecDepth 65536 in
set_option maxHeartbeats 40000000 in
theorem rm2 (l : Launch) (Z : State) (a0 : Array Value) (hw : ∀ d ∈ tables_1, d.before a0 Z = true) (ws : List Jvm.Cond) (a1 : Addr) (q2 q3 : Int64) (h0 : Heap) (n0 : Nat) (Z0 : n0 ≤ h0.size) (E_a1 : Exa Z h0 a1 "com/example/tollwright/tollwright/planner/Contract") (Fr_a1 : Fld Z h0 a1 "com/example/tollwright/tollwright/planner/Contract" "rate" "J" (.long (0 : Int64))) (Fd_a1 : Fld Z h0 a1 "com/example/tollwright/tollwright/planner/Contract" "depth" "J" (.long (0 : Int64))) (g_a1 : n0 ≤ a1) (hrate : (0 : Int64) < q2) (hdepth : ¬ q3 < (0 : Int64)) :
    MetFree l (⟨"com/example/tollwright/tollwright/planner/Contract", "<init>", "(JJ)V"⟩ : MethodName) (head1 (Jvm.Cond.code (⟨"com/example/tollwright/tollwright/planner/Contract", "<init>", "(JJ)V"⟩ : MethodName) prog_27_method_1_code 5 none :: ws) ({ frames := 1, cells := 0, slots := 0, locals := 12 } : Room)) (fun a U => a = #[(.ref a1), (.long q2), (.long q3)] ∧ Z.Warmed39 U.vm ∧ U.heap = h0) (fun _ _ _ _ _ => True) (fun _ U o U' => ∃ v L, o = .returned v ∧ own_Q2 Z a1 q2 q3 h0 n0 v U'.heap L ∧ FrameEnd U o U' L ({ frames := 1, cells := 0, slots := 0, locals := 12 } : Room).cells ({ frames := 1, cells := 0, slots := 0, locals := 12 } : Room).slots) := by
  refine MetFree.of_bodySF (plainFor_of_name pn_2) hisR ?_
  intro p e s m args below meth c s₁ Bd hml0 hP hK
  obtain ⟨rfl, hZ, hh⟩ := hP
  have hx := Bd.exec
  have hby := Bd.bytes
  have hml : c.maxLocals = 5 := hml0
  have hown : s.vm.findClass "com/example/tollwright/tollwright/planner/Contract" = some m.cls := findClass_of_methodNamed Bd.named
  have hnm := (name_of_methodNamed Bd.named Bd.method).1
  have X0 : Stand p l e ({ frames := 1, cells := 0, slots := 0, locals := 12 } : Room) s m #[(.ref a1), (.long q2), (.long q3)] below meth c s₁ [] 0 0 := Stand.of_body Bd
  have e0 : s₁.heap = h0 := by rw [← hh, Bd.state]; rfl
  have N0 := Fr.nil n0
  have pre0 : ∀ tq, Steps p.tables e below (s₁.setTop (mkF m 0 #[.val (.ref a1), .val (.long q2), .second, .val (.long q3), .second] [])) tq → Steps p.tables e below (s₁.setTop (entryFrame m #[(.ref a1), (.long q2), (.long q3)] 5)) tq := fun tq k => castTop (ef_2 m a1 q2 q3) k
  obtain ⟨T1, X1, e1, st1⟩ := initO X0 hx hZ hown (hw _ (List.mem_of_getElem? (i := 11) rfl)) (hw _ (List.mem_of_getElem? (i := 12) rfl)) (hw _ (List.mem_of_getElem? (i := 13) rfl)) e0 (g := (mkF m 1 #[.val (.ref a1), .val (.long q2), .second, .val (.long q3), .second] [(.ref a1)])) rfl (by rw [hml]; rfl) rfl (hb hby d2_1) (by decide) (W := 0) (by show 2 * 0 + _ ≤ _; exact Nat.le_of_eq rfl) (by decide)
  obtain ⟨T2, h2, X2, e2, W2, st2⟩ := putF X1 hx hZ hown (host := "") (Or.inl (hw _ (List.mem_of_getElem? (i := 14) rfl))) Via.refl e1 Fr_a1 E_a1 (Or.inr ⟨(hw _ (List.mem_of_getElem? (i := 15) rfl)), rfl, hnm⟩) (hw _ (List.mem_of_getElem? (i := 6) rfl)) (ty := .long) (by decide) rfl rfl (g := (mkF m 46 #[.val (.ref a1), .val (.long q2), .second, .val (.long q3), .second] [(.long q2), (.ref a1)])) rfl rfl (hb hby d2_46)
  have f3 := E_a1.wr W2
  have f4 := Fr_a1.same W2
  have f5 := Fd_a1.other W2 (Or.inr (slot_ne (Or.inr (hw _ (List.mem_of_getElem? (i := 17) rfl))) (Or.inr (hw _ (List.mem_of_getElem? (i := 15) rfl))) (by decide) (t := .long) (t' := .long) (by decide) (by decide)))
  have kp6 := (Keep.refl h0 [a1]).wr W2 (Or.inl (List.mem_of_getElem? (i := 0) rfl))
  have z7 := Nat.le_trans Z0 (Keep.of_wr W2).1
  have N8 := Fr.snoc X2 N0 g_a1
  obtain ⟨T9, h9, X9, e9, W9, st9⟩ := putF X2 hx hZ hown (host := "") (Or.inl (hw _ (List.mem_of_getElem? (i := 16) rfl))) Via.refl e2 f5 f3 (Or.inr ⟨(hw _ (List.mem_of_getElem? (i := 17) rfl)), rfl, hnm⟩) (hw _ (List.mem_of_getElem? (i := 6) rfl)) (ty := .long) (by decide) rfl rfl (g := (mkF m 51 #[.val (.ref a1), .val (.long q2), .second, .val (.long q3), .second] [(.long q3), (.ref a1)])) rfl rfl (hb hby d2_51)
  have f10 := f3.wr W9
  have f11 := f4.other W9 (Or.inr (slot_ne (Or.inr (hw _ (List.mem_of_getElem? (i := 15) rfl))) (Or.inr (hw _ (List.mem_of_getElem? (i := 17) rfl))) (by decide) (t := .long) (t' := .long) (by decide) (by decide)))
  have f12 := f5.same W9
  have kp13 := kp6.wr W9 (Or.inl (List.mem_of_getElem? (i := 0) rfl))
  have z14 := Nat.le_trans z7 (Keep.of_wr W9).1
  have N15 := Fr.snoc X9 N8 g_a1
  obtain ⟨fs, hr, hrun, hended, hW, hsame⟩ := X9.leave (v := none) (fun _ => rfl)
  refine ⟨_, _, pre0 _ ?_, hrun, hended, _, _, rfl, ?_, ⟨_, rfl⟩, hW, hsame.mono (by decide) (by decide)⟩
  · show Steps p.tables e below (s₁.setTop (mkF m 0 #[.val (.ref a1), .val (.long q2), .second, .val (.long q3), .second] [])) _
    refine XS.aloadN X0.here hx rfl (hb hby d2_0) rfl rfl ?_
    show Steps p.tables e below (s₁.setTop (mkF m 1 #[.val (.ref a1), .val (.long q2), .second, .val (.long q3), .second] [(.ref a1)])) _
    refine st1 _ ?_
    show Steps p.tables e below (T1.setTop (mkF m 4 #[.val (.ref a1), .val (.long q2), .second, .val (.long q3), .second] [])) _
    refine XS.lloadN X1.here hx rfl (hb hby d2_4) rfl ?_
    show Steps p.tables e below (T1.setTop (mkF m 5 #[.val (.ref a1), .val (.long q2), .second, .val (.long q3), .second] [(.long q2)])) _
    refine XS.lconst X1.here hx rfl (hb hby d2_5) ?_
    show Steps p.tables e below (T1.setTop (mkF m 6 #[.val (.ref a1), .val (.long q2), .second, .val (.long q3), .second] [(.long (0 : Int64)), (.long q2)])) _
    refine XS.lcmp X1.here hx rfl (hb hby d2_6) rfl ?_
    show Steps p.tables e below (T1.setTop (mkF m 7 #[.val (.ref a1), .val (.long q2), .second, .val (.long q3), .second] [(.int (lcmpW q2 (0 : Int64)))])) _
    refine XS.ifYes X1.here hx rfl (pc0 := 7) (pc' := 24) rfl (hb hby d2_7) rfl ((if0 _ _).trans (tlt ((lw_gt _ _).mpr hrate)).2.2.1) (by decide) (by decide) ?_
    show Steps p.tables e below (T1.setTop (mkF m 24 #[.val (.ref a1), .val (.long q2), .second, .val (.long q3), .second] [])) _
    refine XS.lloadN X1.here hx rfl (hb hby d2_24) rfl ?_
    show Steps p.tables e below (T1.setTop (mkF m 25 #[.val (.ref a1), .val (.long q2), .second, .val (.long q3), .second] [(.long q3)])) _
    refine XS.lconst X1.here hx rfl (hb hby d2_25) ?_
    show Steps p.tables e below (T1.setTop (mkF m 26 #[.val (.ref a1), .val (.long q2), .second, .val (.long q3), .second] [(.long (0 : Int64)), (.long q3)])) _
    refine XS.lcmp X1.here hx rfl (hb hby d2_26) rfl ?_
    show Steps p.tables e below (T1.setTop (mkF m 27 #[.val (.ref a1), .val (.long q2), .second, .val (.long q3), .second] [(.int (lcmpW q3 (0 : Int64)))])) _
    refine XS.ifYes X1.here hx rfl (pc0 := 27) (pc' := 44) rfl (hb hby d2_27) rfl ((if0 _ _).trans (flt (fun q => hdepth ((lw_lt _ _).mp q))).2.1) (by decide) (by decide) ?_
    show Steps p.tables e below (T1.setTop (mkF m 44 #[.val (.ref a1), .val (.long q2), .second, .val (.long q3), .second] [])) _
    refine XS.aloadN X1.here hx rfl (hb hby d2_44) rfl rfl ?_
    show Steps p.tables e below (T1.setTop (mkF m 45 #[.val (.ref a1), .val (.long q2), .second, .val (.long q3), .second] [(.ref a1)])) _
    refine XS.lloadN X1.here hx rfl (hb hby d2_45) rfl ?_
    show Steps p.tables e below (T1.setTop (mkF m 46 #[.val (.ref a1), .val (.long q2), .second, .val (.long q3), .second] [(.long q2), (.ref a1)])) _
    refine st2 _ ?_
    show Steps p.tables e below (T2.setTop (mkF m 49 #[.val (.ref a1), .val (.long q2), .second, .val (.long q3), .second] [])) _
    refine XS.aloadN X2.here hx rfl (hb hby d2_49) rfl rfl ?_
    show Steps p.tables e below (T2.setTop (mkF m 50 #[.val (.ref a1), .val (.long q2), .second, .val (.long q3), .second] [(.ref a1)])) _
    refine XS.lloadN X2.here hx rfl (hb hby d2_50) rfl ?_
    show Steps p.tables e below (T2.setTop (mkF m 51 #[.val (.ref a1), .val (.long q2), .second, .val (.long q3), .second] [(.long q3), (.ref a1)])) _
    refine st9 _ ?_
    show Steps p.tables e below (T9.setTop (mkF m 54 #[.val (.ref a1), .val (.long q2), .second, .val (.long q3), .second] [])) _
    exact X9.returnOut hx Bd.returns (hb hby d2_54) hr
  · show own_Q2 Z a1 q2 q3 h0 n0 _ T9.heap _
    rw [e9]
    exact ⟨rfl, N15, kp13, f10, f11, f12⟩
theorem d5_0 : decode jdk_35_method_36_code 0 = .ok (.lload_n 0, 1) := by decide +kernel
theorem d5_1 : decode jdk_35_method_36_code 1 = .ok (.lload_n 0, 1) := by decide +kernel
theorem d5_2 : decode jdk_35_method_36_code 2 = .ok (.bipush 32, 2) := by decide +kernel
theorem d5_4 : decode jdk_35_method_36_code 4 = .ok (.lushr, 1) := by decide +kernel
theorem d5_5 : decode jdk_35_method_36_code 5 = .ok (.lxor, 1) := by decide +kernel
theorem d5_6 : decode jdk_35_method_36_code 6 = .ok (.l2i, 1) := by decide +kernel
theorem d5_7 : decode jdk_35_method_36_code 7 = .ok (.ireturn, 1) := by decide +kernel
theorem pn_5 : plainName "java/lang/Long" = true := by first | (simp [plainName, overriddenIn]; done) | decide +kernel
theorem ef_5 (m : MethodId) (x0 : Int64) : entryFrame m #[(.long x0)] 2 = mkF m 0 #[.val (.long x0), .second] [] := by first | (simp [entryFrame, mkF, argsToLocals, Value.category]; done) | rfl
set_option maxRecDepth 65536 in
set_option maxHeartbeats 40000000 in
theorem rm5 (l : Launch) (Z : State) (a0 : Array Value) (hw : ∀ d ∈ tables_1, d.before a0 Z = true) (ws : List Jvm.Cond) (q1 : Int64) (h0 : Heap) (n0 : Nat) (Z0 : n0 ≤ h0.size) :
    MetFree l (⟨"java/lang/Long", "hashCode", "(J)I"⟩ : MethodName) (head1 (Jvm.Cond.code (⟨"java/lang/Long", "hashCode", "(J)I"⟩ : MethodName) jdk_35_method_36_code 2 (some .int) :: ws) ({ frames := 0, cells := 0, slots := 0, locals := 0 } : Room)) (fun a U => a = #[(.long q1)] ∧ Z.Warmed39 U.vm ∧ U.heap = h0) (fun _ _ _ _ _ => True) (fun _ U o U' => ∃ v L, o = .returned v ∧ own_Q5 Z q1 h0 n0 v U'.heap L ∧ FrameEnd U o U' L ({ frames := 0, cells := 0, slots := 0, locals := 0 } : Room).cells ({ frames := 0, cells := 0, slots := 0, locals := 0 } : Room).slots) := by
  refine MetFree.of_bodySF (plainFor_of_name pn_5) hisR ?_
  intro p e s m args below meth c s₁ Bd hml0 hP hK
  obtain ⟨rfl, hZ, hh⟩ := hP
  have hx := Bd.exec
  have hby := Bd.bytes
  have hml : c.maxLocals = 2 := hml0
  have hown : s.vm.findClass "java/lang/Long" = some m.cls := findClass_of_methodNamed Bd.named
  have hnm := (name_of_methodNamed Bd.named Bd.method).1
  have X0 : Stand p l e ({ frames := 0, cells := 0, slots := 0, locals := 0 } : Room) s m #[(.long q1)] below meth c s₁ [] 0 0 := Stand.of_body Bd
  have e0 : s₁.heap = h0 := by rw [← hh, Bd.state]; rfl
  have N0 := Fr.nil n0
  have pre0 : ∀ tq, Steps p.tables e below (s₁.setTop (mkF m 0 #[.val (.long q1), .second] [])) tq → Steps p.tables e below (s₁.setTop (entryFrame m #[(.long q1)] 2)) tq := fun tq k => castTop (ef_5 m q1) k
  obtain ⟨fs, hr, hrun, hended, hW, hsame⟩ := X0.leave (v := some (.int ((q1 ^^^ ((q1.toUInt64 >>> ((32 : Int32) &&& 0x3f).toInt64.toUInt64).toInt64)).toInt32))) (fun h => by rw [Bd.returns] at h; cases h)
  refine ⟨_, _, pre0 _ ?_, hrun, hended, _, _, rfl, ?_, ⟨_, rfl⟩, hW, hsame.mono (by decide) (by decide)⟩
  · show Steps p.tables e below (s₁.setTop (mkF m 0 #[.val (.long q1), .second] [])) _
    refine XS.lloadN X0.here hx rfl (hb hby d5_0) rfl ?_
    show Steps p.tables e below (s₁.setTop (mkF m 1 #[.val (.long q1), .second] [(.long q1)])) _
    refine XS.lloadN X0.here hx rfl (hb hby d5_1) rfl ?_
    show Steps p.tables e below (s₁.setTop (mkF m 2 #[.val (.long q1), .second] [(.long q1), (.long q1)])) _
    refine XS.bipush X0.here hx rfl (hb hby d5_2) ?_
    show Steps p.tables e below (s₁.setTop (mkF m 4 #[.val (.long q1), .second] [(.int (32 : Int32)), (.long q1), (.long q1)])) _
    refine XS.lushr X0.here hx rfl (hb hby d5_4) rfl ?_
    show Steps p.tables e below (s₁.setTop (mkF m 5 #[.val (.long q1), .second] [(.long ((q1.toUInt64 >>> ((32 : Int32) &&& 0x3f).toInt64.toUInt64).toInt64)), (.long q1)])) _
    refine XS.lxor X0.here hx rfl (hb hby d5_5) rfl ?_
    show Steps p.tables e below (s₁.setTop (mkF m 6 #[.val (.long q1), .second] [(.long (q1 ^^^ ((q1.toUInt64 >>> ((32 : Int32) &&& 0x3f).toInt64.toUInt64).toInt64)))])) _
    refine XS.l2i X0.here hx rfl (hb hby d5_6) rfl ?_
    show Steps p.tables e below (s₁.setTop (mkF m 7 #[.val (.long q1), .second] [(.int ((q1 ^^^ ((q1.toUInt64 >>> ((32 : Int32) &&& 0x3f).toInt64.toUInt64).toInt64)).toInt32))])) _
    exact retI X0 hx Bd.returns (hb hby d5_7) hr
  · show own_Q5 Z q1 h0 n0 _ s₁.heap _
    rw [e0]
    exact ⟨rfl, N0, rfl⟩
theorem d6_0 : decode method_2_code 0 = .ok (.lload_n 0, 1) := by decide +kernel
theorem d6_1 : decode method_2_code 1 = .ok (.l2i, 1) := by decide +kernel
theorem d6_2 : decode method_2_code 2 = .ok (.lload_n 0, 1) := by decide +kernel
theorem d6_3 : decode method_2_code 3 = .ok (.bipush 32, 2) := by decide +kernel
theorem d6_5 : decode method_2_code 5 = .ok (.lushr, 1) := by decide +kernel
theorem d6_6 : decode method_2_code 6 = .ok (.l2i, 1) := by decide +kernel
theorem d6_7 : decode method_2_code 7 = .ok (.ixor, 1) := by decide +kernel
theorem d6_8 : decode method_2_code 8 = .ok (.ireturn, 1) := by decide +kernel
theorem pn_6 : plainName "com/example/tollwright/tollwright/planner/ContractHashCodePinLaw" = true := by first | (simp [plainName, overriddenIn]; done) | decide +kernel
theorem ef_6 (m : MethodId) (x0 : Int64) : entryFrame m #[(.long x0)] 2 = mkF m 0 #[.val (.long x0), .second] [] := by first | (simp [entryFrame, mkF, argsToLocals, Value.category]; done) | rfl
set_option maxRecDepth 65536 in
set_option maxHeartbeats 40000000 in
theorem rm6 (l : Launch) (Z : State) (a0 : Array Value) (hw : ∀ d ∈ tables_1, d.before a0 Z = true) (ws : List Jvm.Cond) (q1 : Int64) (h0 : Heap) (n0 : Nat) (Z0 : n0 ≤ h0.size) :
    MetFree l (⟨"com/example/tollwright/tollwright/planner/ContractHashCodePinLaw", "fold", "(J)I"⟩ : MethodName) (head1 (Jvm.Cond.code (⟨"com/example/tollwright/tollwright/planner/ContractHashCodePinLaw", "fold", "(J)I"⟩ : MethodName) method_2_code 2 (some .int) :: ws) ({ frames := 0, cells := 0, slots := 0, locals := 0 } : Room)) (fun a U => a = #[(.long q1)] ∧ Z.Warmed39 U.vm ∧ U.heap = h0) (fun _ _ _ _ _ => True) (fun _ U o U' => ∃ v L, o = .returned v ∧ own_Q6 Z q1 h0 n0 v U'.heap L ∧ FrameEnd U o U' L ({ frames := 0, cells := 0, slots := 0, locals := 0 } : Room).cells ({ frames := 0, cells := 0, slots := 0, locals := 0 } : Room).slots) := by
  refine MetFree.of_bodySF (plainFor_of_name pn_6) hisR ?_
  intro p e s m args below meth c s₁ Bd hml0 hP hK
  obtain ⟨rfl, hZ, hh⟩ := hP
  have hx := Bd.exec
  have hby := Bd.bytes
  have hml : c.maxLocals = 2 := hml0
  have hown : s.vm.findClass "com/example/tollwright/tollwright/planner/ContractHashCodePinLaw" = some m.cls := findClass_of_methodNamed Bd.named
  have hnm := (name_of_methodNamed Bd.named Bd.method).1
  have X0 : Stand p l e ({ frames := 0, cells := 0, slots := 0, locals := 0 } : Room) s m #[(.long q1)] below meth c s₁ [] 0 0 := Stand.of_body Bd
  have e0 : s₁.heap = h0 := by rw [← hh, Bd.state]; rfl
  have N0 := Fr.nil n0
  have pre0 : ∀ tq, Steps p.tables e below (s₁.setTop (mkF m 0 #[.val (.long q1), .second] [])) tq → Steps p.tables e below (s₁.setTop (entryFrame m #[(.long q1)] 2)) tq := fun tq k => castTop (ef_6 m q1) k
  obtain ⟨fs, hr, hrun, hended, hW, hsame⟩ := X0.leave (v := some (.int ((q1.toInt32) ^^^ (((q1.toUInt64 >>> ((32 : Int32) &&& 0x3f).toInt64.toUInt64).toInt64).toInt32)))) (fun h => by rw [Bd.returns] at h; cases h)
  refine ⟨_, _, pre0 _ ?_, hrun, hended, _, _, rfl, ?_, ⟨_, rfl⟩, hW, hsame.mono (by decide) (by decide)⟩
  · show Steps p.tables e below (s₁.setTop (mkF m 0 #[.val (.long q1), .second] [])) _
    refine XS.lloadN X0.here hx rfl (hb hby d6_0) rfl ?_
    show Steps p.tables e below (s₁.setTop (mkF m 1 #[.val (.long q1), .second] [(.long q1)])) _
    refine XS.l2i X0.here hx rfl (hb hby d6_1) rfl ?_
    show Steps p.tables e below (s₁.setTop (mkF m 2 #[.val (.long q1), .second] [(.int (q1.toInt32))])) _
    refine XS.lloadN X0.here hx rfl (hb hby d6_2) rfl ?_
    show Steps p.tables e below (s₁.setTop (mkF m 3 #[.val (.long q1), .second] [(.long q1), (.int (q1.toInt32))])) _
    refine XS.bipush X0.here hx rfl (hb hby d6_3) ?_
    show Steps p.tables e below (s₁.setTop (mkF m 5 #[.val (.long q1), .second] [(.int (32 : Int32)), (.long q1), (.int (q1.toInt32))])) _
    refine XS.lushr X0.here hx rfl (hb hby d6_5) rfl ?_
    show Steps p.tables e below (s₁.setTop (mkF m 6 #[.val (.long q1), .second] [(.long ((q1.toUInt64 >>> ((32 : Int32) &&& 0x3f).toInt64.toUInt64).toInt64)), (.int (q1.toInt32))])) _
    refine XS.l2i X0.here hx rfl (hb hby d6_6) rfl ?_
    show Steps p.tables e below (s₁.setTop (mkF m 7 #[.val (.long q1), .second] [(.int (((q1.toUInt64 >>> ((32 : Int32) &&& 0x3f).toInt64.toUInt64).toInt64).toInt32)), (.int (q1.toInt32))])) _
    refine XS.ixor X0.here hx rfl (hb hby d6_7) rfl ?_
    show Steps p.tables e below (s₁.setTop (mkF m 8 #[.val (.long q1), .second] [(.int ((q1.toInt32) ^^^ (((q1.toUInt64 >>> ((32 : Int32) &&& 0x3f).toInt64.toUInt64).toInt64).toInt32)))])) _
    exact retI X0 hx Bd.returns (hb hby d6_8) hr
  · show own_Q6 Z q1 h0 n0 _ s₁.heap _
    rw [e0]
    exact ⟨rfl, N0, rfl⟩
theorem pd_0 : parseMethodDescriptor "(J)J" = some ⟨[.long], some .long⟩ := by decide +kernel
theorem pd_1 : parseMethodDescriptor "(JJ)V" = some ⟨[.long, .long], none⟩ := by decide +kernel
theorem pd_2 : parseMethodDescriptor "()V" = some ⟨[], none⟩ := by decide +kernel
theorem pd_3 : parseMethodDescriptor "()I" = some ⟨[], some .int⟩ := by decide +kernel
theorem pd_4 : parseMethodDescriptor "(J)I" = some ⟨[.long], some .int⟩ := by decide +kernel
theorem pd_5 : parseMethodDescriptor "(Ljava/lang/Object;)Z" = some ⟨[(.object "java/lang/Object")], some .boolean⟩ := by decide +kernel
theorem d4_0 : decode prog_27_method_5_code 0 = .ok (.aload_n 0, 1) := by decide +kernel
theorem d4_1 : decode prog_27_method_5_code 1 = .ok (.getfield 17, 3) := by decide +kernel
theorem d4_4 : decode prog_27_method_5_code 4 = .ok (.invokestatic 26, 3) := by decide +kernel
theorem d4_7 : decode prog_27_method_5_code 7 = .ok (.bipush 31, 2) := by decide +kernel
theorem d4_9 : decode prog_27_method_5_code 9 = .ok (.imul, 1) := by decide +kernel
theorem d4_10 : decode prog_27_method_5_code 10 = .ok (.aload_n 0, 1) := by decide +kernel
theorem d4_11 : decode prog_27_method_5_code 11 = .ok (.getfield 23, 3) := by decide +kernel
theorem d4_14 : decode prog_27_method_5_code 14 = .ok (.invokestatic 26, 3) := by decide +kernel
theorem d4_17 : decode prog_27_method_5_code 17 = .ok (.iadd, 1) := by decide +kernel
theorem d4_18 : decode prog_27_method_5_code 18 = .ok (.ireturn, 1) := by decide +kernel
theorem pn_4 : plainName "com/example/tollwright/tollwright/planner/Contract" = true := by first | (simp [plainName, overriddenIn]; done) | decide +kernel
theorem ef_4 (m : MethodId) (x0 : Addr) : entryFrame m #[(.ref x0)] 1 = mkF m 0 #[.val (.ref x0)] [] := by first | (simp [entryFrame, mkF, argsToLocals, Value.category]; done) | rfl
set_option maxRecDepth 65536 in
set_option maxHeartbeats 40000000 in
theorem rm4 (l : Launch) (Z : State) (a0 : Array Value) (hw : ∀ d ∈ tables_1, d.before a0 Z = true) (ws : List Jvm.Cond) (a1 : Addr) (r d : Int64) (h0 : Heap) (n0 : Nat) (Z0 : n0 ≤ h0.size) (F1 : Fld Z h0 a1 "com/example/tollwright/tollwright/planner/Contract" "rate" "J" (.long r)) (F2 : Fld Z h0 a1 "com/example/tollwright/tollwright/planner/Contract" "depth" "J" (.long d)) :
    MetFree l (⟨"com/example/tollwright/tollwright/planner/Contract", "hashCode", "()I"⟩ : MethodName) (head1 (Jvm.Cond.code (⟨"com/example/tollwright/tollwright/planner/Contract", "hashCode", "()I"⟩ : MethodName) prog_27_method_5_code 1 (some .int) :: ws) ({ frames := 1, cells := 0, slots := 0, locals := 14 } : Room)) (fun a U => a = #[(.ref a1)] ∧ Z.Warmed39 U.vm ∧ U.heap = h0) (fun _ _ _ _ _ => True) (fun _ U o U' => ∃ v L, o = .returned v ∧ own_Q4 Z a1 r d h0 n0 v U'.heap L ∧ FrameEnd U o U' L ({ frames := 1, cells := 0, slots := 0, locals := 14 } : Room).cells ({ frames := 1, cells := 0, slots := 0, locals := 14 } : Room).slots) := by
  refine MetFree.of_bodySF (plainFor_of_name pn_4) hisR ?_
  intro p e s m args below meth c s₁ Bd hml0 hP hK
  obtain ⟨rfl, hZ, hh⟩ := hP
  have hx := Bd.exec
  have hby := Bd.bytes
  have hml : c.maxLocals = 1 := hml0
  have hown : s.vm.findClass "com/example/tollwright/tollwright/planner/Contract" = some m.cls := findClass_of_methodNamed Bd.named
  have hnm := (name_of_methodNamed Bd.named Bd.method).1
  have X0 : Stand p l e ({ frames := 1, cells := 0, slots := 0, locals := 14 } : Room) s m #[(.ref a1)] below meth c s₁ [] 0 0 := Stand.of_body Bd
  have e0 : s₁.heap = h0 := by rw [← hh, Bd.state]; rfl
  have N0 := Fr.nil n0
  have pre0 : ∀ tq, Steps p.tables e below (s₁.setTop (mkF m 0 #[.val (.ref a1)] [])) tq → Steps p.tables e below (s₁.setTop (entryFrame m #[(.ref a1)] 1)) tq := fun tq k => castTop (ef_4 m a1) k
  obtain ⟨T1, X1, e1, st1⟩ := getF X0 hx hZ hown (host := "") (Or.inl (hw _ (List.mem_of_getElem? (i := 14) rfl))) Via.refl e0 F1 (g := (mkF m 1 #[.val (.ref a1)] [(.ref a1)])) rfl rfl (hb hby d4_1)
  obtain ⟨_, _, ⟨T2, L2, k2, n2⟩, -, X2, ⟨Lc2, hQ2, l2, y2, z2⟩, st2⟩ := Jvm.LawKit.callS X1 hx (y := (⟨"java/lang/Long", "hashCode", "(J)I"⟩ : MethodName)) hown (mvT hZ (hw _ (List.mem_of_getElem? (i := 23) rfl))) (mvT hZ (hw _ (List.mem_of_getElem? (i := 24) rfl))) (mvT hZ (hw _ (List.mem_of_getElem? (i := 25) rfl))) (mvT hZ (hw _ (List.mem_of_getElem? (i := 26) rfl))) (by decide) (backOf (W := 0) (rm5 l Z a0 hw [] r h0 n0 Z0) hZ (hw _ (List.mem_of_getElem? (i := 26) rfl)) (hw _ (List.mem_of_getElem? (i := 25) rfl)) (by decide) (by decide)) (g := (mkF m 4 #[.val (.ref a1)] [(.long r)])) rfl (by rw [hml]; rfl) (argsL := [(.long r)]) (rest := []) (lenOf pd_4 rfl) rfl (by show 2 * 0 + _ ≤ _; exact Nat.le_of_eq rfl) (hb hby d4_4) (fun _ _ => ⟨rfl, e1, (by decide : 0 + 0 ≤ _), (by decide : 0 + 0 ≤ _)⟩)
  dsimp only [Pt.U, Pt.locs, Pt.cells, Pt.slots] at X2 l2 y2 z2 st2 hQ2
  subst l2 y2 z2
  obtain ⟨rfl, N2q, e2⟩ := hQ2
  have N2 := Fr.app N0 N2q
  obtain ⟨T3, X3, e3, st3⟩ := getF X2 hx hZ hown (host := "") (Or.inl (hw _ (List.mem_of_getElem? (i := 16) rfl))) Via.refl e2 F2 (g := (mkF m 11 #[.val (.ref a1)] [(.ref a1), (.int ((own_lh r) * (31 : Int32)))])) rfl rfl (hb hby d4_11)
  obtain ⟨_, _, ⟨T4, L4, k4, n4⟩, -, X4, ⟨Lc4, hQ4, l4, y4, z4⟩, st4⟩ := Jvm.LawKit.callS X3 hx (y := (⟨"java/lang/Long", "hashCode", "(J)I"⟩ : MethodName)) hown (mvT hZ (hw _ (List.mem_of_getElem? (i := 23) rfl))) (mvT hZ (hw _ (List.mem_of_getElem? (i := 24) rfl))) (mvT hZ (hw _ (List.mem_of_getElem? (i := 25) rfl))) (mvT hZ (hw _ (List.mem_of_getElem? (i := 26) rfl))) (by decide) (backOf (W := 1) (rm5 l Z a0 hw [] d h0 n0 Z0) hZ (hw _ (List.mem_of_getElem? (i := 26) rfl)) (hw _ (List.mem_of_getElem? (i := 25) rfl)) (by decide) (by decide)) (g := (mkF m 14 #[.val (.ref a1)] [(.long d), (.int ((own_lh r) * (31 : Int32)))])) rfl (by rw [hml]; rfl) (argsL := [(.long d)]) (rest := [(.int ((own_lh r) * (31 : Int32)))]) (lenOf pd_4 rfl) rfl (by show 2 * 0 + _ ≤ _; exact Nat.le_of_eq rfl) (hb hby d4_14) (fun _ _ => ⟨rfl, e3, (by decide : 0 + 0 ≤ _), (by decide : 0 + 0 ≤ _)⟩)
  dsimp only [Pt.U, Pt.locs, Pt.cells, Pt.slots] at X4 l4 y4 z4 st4 hQ4
  subst l4 y4 z4
  obtain ⟨rfl, N4q, e4⟩ := hQ4
  have N4 := Fr.app N2 N4q
  obtain ⟨fs, hr, hrun, hended, hW, hsame⟩ := X4.leave (v := some (.int (((own_lh r) * (31 : Int32)) + (own_lh d)))) (fun h => by rw [Bd.returns] at h; cases h)
  refine ⟨_, _, pre0 _ ?_, hrun, hended, _, _, rfl, ?_, ⟨_, rfl⟩, hW, hsame.mono (by decide) (by decide)⟩
  · show Steps p.tables e below (s₁.setTop (mkF m 0 #[.val (.ref a1)] [])) _
    refine XS.aloadN X0.here hx rfl (hb hby d4_0) rfl rfl ?_
    show Steps p.tables e below (s₁.setTop (mkF m 1 #[.val (.ref a1)] [(.ref a1)])) _
    refine st1 _ ?_
    show Steps p.tables e below (T1.setTop (mkF m 4 #[.val (.ref a1)] [(.long r)])) _
    refine st2 _ ?_
    show Steps p.tables e below (T2.setTop (mkF m 7 #[.val (.ref a1)] [(.int (own_lh r))])) _
    refine XS.bipush X2.here hx rfl (hb hby d4_7) ?_
    show Steps p.tables e below (T2.setTop (mkF m 9 #[.val (.ref a1)] [(.int (31 : Int32)), (.int (own_lh r))])) _
    refine XS.imul X2.here hx rfl (hb hby d4_9) rfl ?_
    show Steps p.tables e below (T2.setTop (mkF m 10 #[.val (.ref a1)] [(.int ((own_lh r) * (31 : Int32)))])) _
    refine XS.aloadN X2.here hx rfl (hb hby d4_10) rfl rfl ?_
    show Steps p.tables e below (T2.setTop (mkF m 11 #[.val (.ref a1)] [(.ref a1), (.int ((own_lh r) * (31 : Int32)))])) _
    refine st3 _ ?_
    show Steps p.tables e below (T3.setTop (mkF m 14 #[.val (.ref a1)] [(.long d), (.int ((own_lh r) * (31 : Int32)))])) _
    refine st4 _ ?_
    show Steps p.tables e below (T4.setTop (mkF m 17 #[.val (.ref a1)] [(.int (own_lh d)), (.int ((own_lh r) * (31 : Int32)))])) _
    refine XS.iadd X4.here hx rfl (hb hby d4_17) rfl ?_
    show Steps p.tables e below (T4.setTop (mkF m 18 #[.val (.ref a1)] [(.int (((own_lh r) * (31 : Int32)) + (own_lh d)))])) _
    exact retI X4 hx Bd.returns (hb hby d4_18) hr
  · show own_Q4 Z a1 r d h0 n0 _ T4.heap _
    rw [e4]
    exact ⟨rfl, N4, rfl⟩
def own_Q7 (Z : State) (a1 a2 : Addr) (ra da rb db : Int64) := own_QI (own_eq ra da rb db) Z
theorem d7_0 : decode prog_27_method_4_code 0 = .ok (.aload_n 1, 1) := by decide +kernel
theorem d7_1 : decode prog_27_method_4_code 1 = .ok (.instanceof 18, 3) := by decide +kernel
theorem d7_4 : decode prog_27_method_4_code 4 = .ok (.ifCond .eq 37, 3) := by decide +kernel
theorem d7_7 : decode prog_27_method_4_code 7 = .ok (.aload_n 1, 1) := by decide +kernel
theorem d7_8 : decode prog_27_method_4_code 8 = .ok (.checkcast 18, 3) := by decide +kernel
theorem d7_11 : decode prog_27_method_4_code 11 = .ok (.getfield 17, 3) := by decide +kernel
theorem d7_14 : decode prog_27_method_4_code 14 = .ok (.aload_n 0, 1) := by decide +kernel
theorem d7_15 : decode prog_27_method_4_code 15 = .ok (.getfield 17, 3) := by decide +kernel
theorem d7_18 : decode prog_27_method_4_code 18 = .ok (.lcmp, 1) := by decide +kernel
theorem d7_19 : decode prog_27_method_4_code 19 = .ok (.ifCond .ne 22, 3) := by decide +kernel
theorem d7_22 : decode prog_27_method_4_code 22 = .ok (.aload_n 1, 1) := by decide +kernel
theorem d7_23 : decode prog_27_method_4_code 23 = .ok (.checkcast 18, 3) := by decide +kernel
theorem d7_26 : decode prog_27_method_4_code 26 = .ok (.getfield 23, 3) := by decide +kernel
theorem d7_29 : decode prog_27_method_4_code 29 = .ok (.aload_n 0, 1) := by decide +kernel
theorem d7_30 : decode prog_27_method_4_code 30 = .ok (.getfield 23, 3) := by decide +kernel
theorem d7_33 : decode prog_27_method_4_code 33 = .ok (.lcmp, 1) := by decide +kernel
theorem d7_34 : decode prog_27_method_4_code 34 = .ok (.ifCond .ne 7, 3) := by decide +kernel
theorem d7_37 : decode prog_27_method_4_code 37 = .ok (.iconst 1, 1) := by decide +kernel
theorem d7_38 : decode prog_27_method_4_code 38 = .ok (.goto 4, 3) := by decide +kernel
theorem d7_41 : decode prog_27_method_4_code 41 = .ok (.iconst 0, 1) := by decide +kernel
theorem d7_42 : decode prog_27_method_4_code 42 = .ok (.ireturn, 1) := by decide +kernel
theorem pn_7 : plainName "com/example/tollwright/tollwright/planner/Contract" = true := by first | (simp [plainName, overriddenIn]; done) | decide +kernel
theorem ef_7 (m : MethodId) (x0 : Addr) (x1 : Addr) : entryFrame m #[(.ref x0), (.ref x1)] 2 = mkF m 0 #[.val (.ref x0), .val (.ref x1)] [] := by first | (simp [entryFrame, mkF, argsToLocals, Value.category]; done) | rfl
set_option maxRecDepth 65536 in
set_option maxHeartbeats 40000000 in
theorem rm7 (l : Launch) (Z : State) (a0 : Array Value) (hw : ∀ d ∈ tables_1, d.before a0 Z = true) (ws : List Jvm.Cond) (a1 a2 : Addr) (ra da rb db : Int64) (h0 : Heap) (n0 : Nat) (Z0 : n0 ≤ h0.size) (E2 : Exa Z h0 a2 "com/example/tollwright/tollwright/planner/Contract") (F1 : Fld Z h0 a1 "com/example/tollwright/tollwright/planner/Contract" "rate" "J" (.long ra)) (F2 : Fld Z h0 a1 "com/example/tollwright/tollwright/planner/Contract" "depth" "J" (.long da)) (F3 : Fld Z h0 a2 "com/example/tollwright/tollwright/planner/Contract" "rate" "J" (.long rb)) (F4 : Fld Z h0 a2 "com/example/tollwright/tollwright/planner/Contract" "depth" "J" (.long db)) :
    MetFree l (⟨"com/example/tollwright/tollwright/planner/Contract", "equals", "(Ljava/lang/Object;)Z"⟩ : MethodName) (head1 (Jvm.Cond.code (⟨"com/example/tollwright/tollwright/planner/Contract", "equals", "(Ljava/lang/Object;)Z"⟩ : MethodName) prog_27_method_4_code 2 (some .boolean) :: ws) ({ frames := 0, cells := 0, slots := 0, locals := 0 } : Room)) (fun a U => a = #[(.ref a1), (.ref a2)] ∧ Z.Warmed39 U.vm ∧ U.heap = h0) (fun _ _ _ _ _ => True) (fun _ U o U' => ∃ v L, o = .returned v ∧ own_Q7 Z a1 a2 ra da rb db h0 n0 v U'.heap L ∧ FrameEnd U o U' L ({ frames := 0, cells := 0, slots := 0, locals := 0 } : Room).cells ({ frames := 0, cells := 0, slots := 0, locals := 0 } : Room).slots) := by
  refine MetFree.of_bodySF (plainFor_of_name pn_7) hisR ?_
  intro p e s m args below meth c s₁ Bd hml0 hP hK
  obtain ⟨rfl, hZ, hh⟩ := hP
  have hx := Bd.exec
  have hby := Bd.bytes
  have hml : c.maxLocals = 2 := hml0
  have hown : s.vm.findClass "com/example/tollwright/tollwright/planner/Contract" = some m.cls := findClass_of_methodNamed Bd.named
  have hnm := (name_of_methodNamed Bd.named Bd.method).1
  have X0 : Stand p l e ({ frames := 0, cells := 0, slots := 0, locals := 0 } : Room) s m #[(.ref a1), (.ref a2)] below meth c s₁ [] 0 0 := Stand.of_body Bd
  have e0 : s₁.heap = h0 := by rw [← hh, Bd.state]; rfl
  have N0 := Fr.nil n0
  have pre0 : ∀ tq, Steps p.tables e below (s₁.setTop (mkF m 0 #[.val (.ref a1), .val (.ref a2)] [])) tq → Steps p.tables e below (s₁.setTop (entryFrame m #[(.ref a1), (.ref a2)] 2)) tq := fun tq k => castTop (ef_7 m a1 a2) k
  obtain ⟨T1, X1, e1, st1⟩ := instY X0 hx hZ hown (hw _ (List.mem_of_getElem? (i := 35) rfl)) e0 (Ins.self E2) (g := (mkF m 1 #[.val (.ref a1), .val (.ref a2)] [(.ref a2)])) rfl rfl (hb hby d7_1)
  obtain ⟨T2, X2, e2, st2⟩ := castY X1 hx hZ hown (hw _ (List.mem_of_getElem? (i := 35) rfl)) e1 (Ins.self E2) (g := (mkF m 8 #[.val (.ref a1), .val (.ref a2)] [(.ref a2)])) rfl rfl (hb hby d7_8)
  obtain ⟨T3, X3, e3, st3⟩ := getF X2 hx hZ hown (host := "") (Or.inl (hw _ (List.mem_of_getElem? (i := 14) rfl))) Via.refl e2 F3 (g := (mkF m 11 #[.val (.ref a1), .val (.ref a2)] [(.ref a2)])) rfl rfl (hb hby d7_11)
  obtain ⟨T4, X4, e4, st4⟩ := getF X3 hx hZ hown (host := "") (Or.inl (hw _ (List.mem_of_getElem? (i := 14) rfl))) Via.refl e3 F1 (g := (mkF m 15 #[.val (.ref a1), .val (.ref a2)] [(.ref a1), (.long rb)])) rfl rfl (hb hby d7_15)
  have k5 : ∀ tq, Steps p.tables e below (T4.setTop (mkF m 19 #[.val (.ref a1), .val (.ref a2)] [(.int (lcmpW rb ra))])) tq → Steps p.tables e below (s₁.setTop (entryFrame m #[(.ref a1), (.ref a2)] 2)) tq := by
    intro tq kt
    refine pre0 tq ?_
    show Steps p.tables e below (s₁.setTop (mkF m 0 #[.val (.ref a1), .val (.ref a2)] [])) _
    refine XS.aloadN X0.here hx rfl (hb hby d7_0) rfl rfl ?_
    show Steps p.tables e below (s₁.setTop (mkF m 1 #[.val (.ref a1), .val (.ref a2)] [(.ref a2)])) _
    refine st1 _ ?_
    show Steps p.tables e below (T1.setTop (mkF m 4 #[.val (.ref a1), .val (.ref a2)] [(.int (1 : Int32))])) _
    refine XS.ifNo X1.here hx rfl (hb hby d7_4) rfl ((if0 _ _).trans (feq (by decide : ¬ ((1 : Int32) = (0 : Int32)))).1) ?_
    show Steps p.tables e below (T1.setTop (mkF m 7 #[.val (.ref a1), .val (.ref a2)] [])) _
    refine XS.aloadN X1.here hx rfl (hb hby d7_7) rfl rfl ?_
    show Steps p.tables e below (T1.setTop (mkF m 8 #[.val (.ref a1), .val (.ref a2)] [(.ref a2)])) _
    refine st2 _ ?_
    show Steps p.tables e below (T2.setTop (mkF m 11 #[.val (.ref a1), .val (.ref a2)] [(.ref a2)])) _
    refine st3 _ ?_
    show Steps p.tables e below (T3.setTop (mkF m 14 #[.val (.ref a1), .val (.ref a2)] [(.long rb)])) _
    refine XS.aloadN X3.here hx rfl (hb hby d7_14) rfl rfl ?_
    show Steps p.tables e below (T3.setTop (mkF m 15 #[.val (.ref a1), .val (.ref a2)] [(.ref a1), (.long rb)])) _
    refine st4 _ ?_
    show Steps p.tables e below (T4.setTop (mkF m 18 #[.val (.ref a1), .val (.ref a2)] [(.long ra), (.long rb)])) _
    refine XS.lcmp X4.here hx rfl (hb hby d7_18) rfl ?_
    exact kt
  by_cases hc6 : (lcmpW rb ra) = (0 : Int32)
  · obtain ⟨T7, X7, e7, st7⟩ := castY X4 hx hZ hown (hw _ (List.mem_of_getElem? (i := 35) rfl)) e4 (Ins.self E2) (g := (mkF m 23 #[.val (.ref a1), .val (.ref a2)] [(.ref a2)])) rfl rfl (hb hby d7_23)
    obtain ⟨T8, X8, e8, st8⟩ := getF X7 hx hZ hown (host := "") (Or.inl (hw _ (List.mem_of_getElem? (i := 16) rfl))) Via.refl e7 F4 (g := (mkF m 26 #[.val (.ref a1), .val (.ref a2)] [(.ref a2)])) rfl rfl (hb hby d7_26)
    obtain ⟨T9, X9, e9, st9⟩ := getF X8 hx hZ hown (host := "") (Or.inl (hw _ (List.mem_of_getElem? (i := 16) rfl))) Via.refl e8 F2 (g := (mkF m 30 #[.val (.ref a1), .val (.ref a2)] [(.ref a1), (.long db)])) rfl rfl (hb hby d7_30)
    have k10 : ∀ tq, Steps p.tables e below (T9.setTop (mkF m 34 #[.val (.ref a1), .val (.ref a2)] [(.int (lcmpW db da))])) tq → Steps p.tables e below (s₁.setTop (entryFrame m #[(.ref a1), (.ref a2)] 2)) tq := by
      intro tq kt
      refine k5 tq ?_
      show Steps p.tables e below (T4.setTop (mkF m 19 #[.val (.ref a1), .val (.ref a2)] [(.int (lcmpW rb ra))])) _
      refine XS.ifNo X4.here hx rfl (hb hby d7_19) rfl ((if0 _ _).trans (teq hc6).2) ?_
      show Steps p.tables e below (T4.setTop (mkF m 22 #[.val (.ref a1), .val (.ref a2)] [])) _
      refine XS.aloadN X4.here hx rfl (hb hby d7_22) rfl rfl ?_
      show Steps p.tables e below (T4.setTop (mkF m 23 #[.val (.ref a1), .val (.ref a2)] [(.ref a2)])) _
      refine st7 _ ?_
      show Steps p.tables e below (T7.setTop (mkF m 26 #[.val (.ref a1), .val (.ref a2)] [(.ref a2)])) _
      refine st8 _ ?_
      show Steps p.tables e below (T8.setTop (mkF m 29 #[.val (.ref a1), .val (.ref a2)] [(.long db)])) _
      refine XS.aloadN X8.here hx rfl (hb hby d7_29) rfl rfl ?_
      show Steps p.tables e below (T8.setTop (mkF m 30 #[.val (.ref a1), .val (.ref a2)] [(.ref a1), (.long db)])) _
      refine st9 _ ?_
      show Steps p.tables e below (T9.setTop (mkF m 33 #[.val (.ref a1), .val (.ref a2)] [(.long da), (.long db)])) _
      refine XS.lcmp X9.here hx rfl (hb hby d7_33) rfl ?_
      exact kt
    by_cases hc11 : (lcmpW db da) = (0 : Int32)
    · obtain ⟨fs, hr, hrun, hended, hW, hsame⟩ := X9.leave (v := some (.int (1 : Int32))) (fun h => by rw [Bd.returns] at h; cases h)
      refine ⟨_, _, k10 _ ?_, hrun, hended, _, _, rfl, ?_, ⟨_, rfl⟩, hW, hsame.mono (by decide) (by decide)⟩
      · show Steps p.tables e below (T9.setTop (mkF m 34 #[.val (.ref a1), .val (.ref a2)] [(.int (lcmpW db da))])) _
        refine XS.ifNo X9.here hx rfl (hb hby d7_34) rfl ((if0 _ _).trans (teq hc11).2) ?_
        show Steps p.tables e below (T9.setTop (mkF m 37 #[.val (.ref a1), .val (.ref a2)] [])) _
        refine XS.iconst X9.here hx rfl (hb hby d7_37) ?_
        show Steps p.tables e below (T9.setTop (mkF m 38 #[.val (.ref a1), .val (.ref a2)] [(.int (1 : Int32))])) _
        refine XS.goto X9.here hx rfl (pc0 := 38) (pc' := 42) rfl (hb hby d7_38) (by decide) (by decide) ?_
        show Steps p.tables e below (T9.setTop (mkF m 42 #[.val (.ref a1), .val (.ref a2)] [(.int (1 : Int32))])) _
        exact retN X9 hx (t := .boolean) Bd.returns (by simp) (hb hby d7_42) hr
      · show own_Q7 Z a1 a2 ra da rb db h0 n0 _ T9.heap _
        rw [e9]
        exact ⟨congrArg (fun z => some (Value.int z)) (show (1 : Int32) = own_eq ra da rb db from by unfold own_eq; rw [if_pos hc6]; rw [if_pos hc11]), N0, rfl⟩
    · obtain ⟨fs, hr, hrun, hended, hW, hsame⟩ := X9.leave (v := some (.int (0 : Int32))) (fun h => by rw [Bd.returns] at h; cases h)
      refine ⟨_, _, k10 _ ?_, hrun, hended, _, _, rfl, ?_, ⟨_, rfl⟩, hW, hsame.mono (by decide) (by decide)⟩
      · show Steps p.tables e below (T9.setTop (mkF m 34 #[.val (.ref a1), .val (.ref a2)] [(.int (lcmpW db da))])) _
        refine XS.ifYes X9.here hx rfl (pc0 := 34) (pc' := 41) rfl (hb hby d7_34) rfl ((if0 _ _).trans (feq hc11).2) (by decide) (by decide) ?_
        show Steps p.tables e below (T9.setTop (mkF m 41 #[.val (.ref a1), .val (.ref a2)] [])) _
        refine XS.iconst X9.here hx rfl (hb hby d7_41) ?_
        show Steps p.tables e below (T9.setTop (mkF m 42 #[.val (.ref a1), .val (.ref a2)] [(.int (0 : Int32))])) _
        exact retN X9 hx (t := .boolean) Bd.returns (by simp) (hb hby d7_42) hr
      · show own_Q7 Z a1 a2 ra da rb db h0 n0 _ T9.heap _
        rw [e9]
        exact ⟨congrArg (fun z => some (Value.int z)) (show (0 : Int32) = own_eq ra da rb db from by unfold own_eq; rw [if_pos hc6]; rw [if_neg hc11]), N0, rfl⟩
  · obtain ⟨fs, hr, hrun, hended, hW, hsame⟩ := X4.leave (v := some (.int (0 : Int32))) (fun h => by rw [Bd.returns] at h; cases h)
    refine ⟨_, _, k5 _ ?_, hrun, hended, _, _, rfl, ?_, ⟨_, rfl⟩, hW, hsame.mono (by decide) (by decide)⟩
    · show Steps p.tables e below (T4.setTop (mkF m 19 #[.val (.ref a1), .val (.ref a2)] [(.int (lcmpW rb ra))])) _
      refine XS.ifYes X4.here hx rfl (pc0 := 19) (pc' := 41) rfl (hb hby d7_19) rfl ((if0 _ _).trans (feq hc6).2) (by decide) (by decide) ?_
      show Steps p.tables e below (T4.setTop (mkF m 41 #[.val (.ref a1), .val (.ref a2)] [])) _
      refine XS.iconst X4.here hx rfl (hb hby d7_41) ?_
      show Steps p.tables e below (T4.setTop (mkF m 42 #[.val (.ref a1), .val (.ref a2)] [(.int (0 : Int32))])) _
      exact retN X4 hx (t := .boolean) Bd.returns (by simp) (hb hby d7_42) hr
    · show own_Q7 Z a1 a2 ra da rb db h0 n0 _ T4.heap _
      rw [e4]
      exact ⟨congrArg (fun z => some (Value.int z)) (show (0 : Int32) = own_eq ra da rb db from by unfold own_eq; rw [if_neg hc6]), N0, rfl⟩
def own_Q0 (Z : State) (r1 d1 r2 d2 : Int64) (fl : Int32) (h0 : Heap) (n0 : Nat) (v : Option Value) (h : Heap) (L : List Loc) : Prop := v = some (.int 1) ∧ Fr n0 L
theorem pn_0 : plainName "com/example/tollwright/tollwright/planner/ContractHashCodePinLaw" = true := by first | (simp [plainName, overriddenIn]; done) | decide +kernel
theorem ef_0 (m : MethodId) (x0 : Int64) (x1 : Int64) (x2 : Int64) (x3 : Int64) (x4 : Int32) : entryFrame m #[(.long x0), (.long x1), (.long x2), (.long x3), (.int x4)] maxLocals = mkF m 0 #[.val (.long x0), .second, .val (.long x1), .second, .val (.long x2), .second, .val (.long x3), .second, .val (.int x4), .unset, .unset, .unset, .unset, .unset, .unset, .unset, .unset, .unset, .unset, .unset, .unset, .unset, .unset, .unset] [] := by first | (simp [entryFrame, mkF, argsToLocals, Value.category, maxLocals]; done) | rfl
set_option maxRecDepth 65536 in
set_option maxHeartbeats 40000000 in
theorem rm0 (l : Launch) (Z : State) (a0 : Array Value) (hw : ∀ d ∈ tables_1, d.before a0 Z = true) (ws : List Jvm.Cond) (r1 d1 r2 d2 : Int64) (fl : Int32) (h0 : Heap) (n0 : Nat) (Z0 : n0 ≤ h0.size) :
    MetFree l x (head1 (Jvm.Cond.code x code maxLocals ret :: ws) room_1) (fun a U => a = #[(.long r1), (.long d1), (.long r2), (.long d2), (.int fl)] ∧ Z.Warmed39 U.vm ∧ U.heap = h0) (fun _ _ _ _ _ => True) (fun _ U o U' => ∃ v L, o = .returned v ∧ own_Q0 Z r1 d1 r2 d2 fl h0 n0 v U'.heap L ∧ FrameEnd U o U' L room_1.cells room_1.slots) := by
  refine MetFree.of_bodySF (plainFor_of_name pn_0) hisR ?_
  intro p e s m args below meth c s₁ Bd hml0 hP hK
  obtain ⟨rfl, hZ, hh⟩ := hP
  have hx := Bd.exec
  have hby := Bd.bytes
  have hml : c.maxLocals = 24 := hml0
  have hown : s.vm.findClass "com/example/tollwright/tollwright/planner/ContractHashCodePinLaw" = some m.cls := findClass_of_methodNamed Bd.named
  have hnm := (name_of_methodNamed Bd.named Bd.method).1
  have X0 : Stand p l e room_1 s m #[(.long r1), (.long d1), (.long r2), (.long d2), (.int fl)] below meth c s₁ [] 0 0 := Stand.of_body Bd
  have e0 : s₁.heap = h0 := by rw [← hh, Bd.state]; rfl
  have N0 := Fr.nil n0
  have pre0 : ∀ tq, Steps p.tables e below (s₁.setTop (mkF m 0 #[.val (.long r1), .second, .val (.long d1), .second, .val (.long r2), .second, .val (.long d2), .second, .val (.int fl), .unset, .unset, .unset, .unset, .unset, .unset, .unset, .unset, .unset, .unset, .unset, .unset, .unset, .unset, .unset] [])) tq → Steps p.tables e below (s₁.setTop (entryFrame m #[(.long r1), (.long d1), (.long r2), (.long d2), (.int fl)] maxLocals)) tq := fun tq k => castTop (ef_0 m r1 d1 r2 d2 fl) k
  obtain ⟨_, _, ⟨T1, L1, k1, n1⟩, -, X1, ⟨Lc1, hQ1, l1, y1, z1⟩, st1⟩ := Jvm.LawKit.callS X0 hx (y := (⟨"com/example/tollwright/tollwright/planner/ContractHashCodePinLaw", "validRate", "(J)J"⟩ : MethodName)) hown (mvT hZ (hw _ (List.mem_of_getElem? (i := 0) rfl))) (mvT hZ (hw _ (List.mem_of_getElem? (i := 1) rfl))) (mvT hZ (hw _ (List.mem_of_getElem? (i := 2) rfl))) (mvT hZ (hw _ (List.mem_of_getElem? (i := 3) rfl))) (by decide) (backOf (W := 0) (rm1 l Z a0 hw [] r1 h0 n0 Z0) hZ (hw _ (List.mem_of_getElem? (i := 3) rfl)) (hw _ (List.mem_of_getElem? (i := 2) rfl)) (by decide) (by decide)) (g := (mkF m 1 #[.val (.long r1), .second, .val (.long d1), .second, .val (.long r2), .second, .val (.long d2), .second, .val (.int fl), .unset, .unset, .unset, .unset, .unset, .unset, .unset, .unset, .unset, .unset, .unset, .unset, .unset, .unset, .unset] [(.long r1)])) rfl (by rw [hml]; rfl) (argsL := [(.long r1)]) (rest := []) (lenOf pd_0 rfl) rfl (by show 2 * 0 + _ ≤ _; exact Nat.le_of_eq rfl) (hb hby at_1) (fun _ _ => ⟨rfl, e0, (by decide : 0 + 0 ≤ _), (by decide : 0 + 0 ≤ _)⟩)
  dsimp only [Pt.U, Pt.locs, Pt.cells, Pt.slots] at X1 l1 y1 z1 st1 hQ1
  subst l1 y1 z1
  obtain ⟨rfl, N1q, e1⟩ := hQ1
  have N1 := Fr.app N0 N1q
  have k2 : ∀ tq, Steps p.tables e below (T1.setTop (mkF m 17 #[.val (.long r1), .second, .val (.long d1), .second, .val (.long r2), .second, .val (.long d2), .second, .val (.int fl), .val (.long (own_vr r1)), .second, .val (.long (d1 &&& (9223372036854775807 : Int64))), .second, .unset, .unset, .unset, .unset, .unset, .unset, .unset, .unset, .unset, .unset, .unset] [(.int (fl &&& (1 : Int32)))])) tq → Steps p.tables e below (s₁.setTop (entryFrame m #[(.long r1), (.long d1), (.long r2), (.long d2), (.int fl)] maxLocals)) tq := by
    intro tq kt
    refine pre0 tq ?_
    show Steps p.tables e below (s₁.setTop (mkF m 0 #[.val (.long r1), .second, .val (.long d1), .second, .val (.long r2), .second, .val (.long d2), .second, .val (.int fl), .unset, .unset, .unset, .unset, .unset, .unset, .unset, .unset, .unset, .unset, .unset, .unset, .unset, .unset, .unset] [])) _
    refine XS.lloadN X0.here hx rfl (hb hby at_0) rfl ?_
    show Steps p.tables e below (s₁.setTop (mkF m 1 #[.val (.long r1), .second, .val (.long d1), .second, .val (.long r2), .second, .val (.long d2), .second, .val (.int fl), .unset, .unset, .unset, .unset, .unset, .unset, .unset, .unset, .unset, .unset, .unset, .unset, .unset, .unset, .unset] [(.long r1)])) _
    refine st1 _ ?_
    show Steps p.tables e below (T1.setTop (mkF m 4 #[.val (.long r1), .second, .val (.long d1), .second, .val (.long r2), .second, .val (.long d2), .second, .val (.int fl), .unset, .unset, .unset, .unset, .unset, .unset, .unset, .unset, .unset, .unset, .unset, .unset, .unset, .unset, .unset] [(.long (own_vr r1))])) _
    refine XS.lstore X1.here hx rfl (hb hby at_4) rfl (l' := #[.val (.long r1), .second, .val (.long d1), .second, .val (.long r2), .second, .val (.long d2), .second, .val (.int fl), .val (.long (own_vr r1)), .second, .unset, .unset, .unset, .unset, .unset, .unset, .unset, .unset, .unset, .unset, .unset, .unset, .unset]) rfl ?_
    show Steps p.tables e below (T1.setTop (mkF m 6 #[.val (.long r1), .second, .val (.long d1), .second, .val (.long r2), .second, .val (.long d2), .second, .val (.int fl), .val (.long (own_vr r1)), .second, .unset, .unset, .unset, .unset, .unset, .unset, .unset, .unset, .unset, .unset, .unset, .unset, .unset] [])) _
    refine XS.lloadN X1.here hx rfl (hb hby at_6) rfl ?_
    show Steps p.tables e below (T1.setTop (mkF m 7 #[.val (.long r1), .second, .val (.long d1), .second, .val (.long r2), .second, .val (.long d2), .second, .val (.int fl), .val (.long (own_vr r1)), .second, .unset, .unset, .unset, .unset, .unset, .unset, .unset, .unset, .unset, .unset, .unset, .unset, .unset] [(.long d1)])) _
    refine X1.ldc2Long hx hown (mvT hZ (hw _ (List.mem_of_getElem? (i := 4) rfl))) (g := (mkF m 7 #[.val (.long r1), .second, .val (.long d1), .second, .val (.long r2), .second, .val (.long d2), .second, .val (.int fl), .val (.long (own_vr r1)), .second, .unset, .unset, .unset, .unset, .unset, .unset, .unset, .unset, .unset, .unset, .unset, .unset, .unset] [(.long d1)])) rfl (hb hby at_7) _ ?_
    show Steps p.tables e below (T1.setTop (mkF m 10 #[.val (.long r1), .second, .val (.long d1), .second, .val (.long r2), .second, .val (.long d2), .second, .val (.int fl), .val (.long (own_vr r1)), .second, .unset, .unset, .unset, .unset, .unset, .unset, .unset, .unset, .unset, .unset, .unset, .unset, .unset] [(.long (9223372036854775807 : Int64)), (.long d1)])) _
    refine XS.land X1.here hx rfl (hb hby at_10) rfl ?_
    show Steps p.tables e below (T1.setTop (mkF m 11 #[.val (.long r1), .second, .val (.long d1), .second, .val (.long r2), .second, .val (.long d2), .second, .val (.int fl), .val (.long (own_vr r1)), .second, .unset, .unset, .unset, .unset, .unset, .unset, .unset, .unset, .unset, .unset, .unset, .unset, .unset] [(.long (d1 &&& (9223372036854775807 : Int64)))])) _
    refine XS.lstore X1.here hx rfl (hb hby at_11) rfl (l' := #[.val (.long r1), .second, .val (.long d1), .second, .val (.long r2), .second, .val (.long d2), .second, .val (.int fl), .val (.long (own_vr r1)), .second, .val (.long (d1 &&& (9223372036854775807 : Int64))), .second, .unset, .unset, .unset, .unset, .unset, .unset, .unset, .unset, .unset, .unset, .unset]) rfl ?_
    show Steps p.tables e below (T1.setTop (mkF m 13 #[.val (.long r1), .second, .val (.long d1), .second, .val (.long r2), .second, .val (.long d2), .second, .val (.int fl), .val (.long (own_vr r1)), .second, .val (.long (d1 &&& (9223372036854775807 : Int64))), .second, .unset, .unset, .unset, .unset, .unset, .unset, .unset, .unset, .unset, .unset, .unset] [])) _
    refine XS.iload X1.here hx rfl (hb hby at_13) rfl ?_
    show Steps p.tables e below (T1.setTop (mkF m 15 #[.val (.long r1), .second, .val (.long d1), .second, .val (.long r2), .second, .val (.long d2), .second, .val (.int fl), .val (.long (own_vr r1)), .second, .val (.long (d1 &&& (9223372036854775807 : Int64))), .second, .unset, .unset, .unset, .unset, .unset, .unset, .unset, .unset, .unset, .unset, .unset] [(.int fl)])) _
    refine XS.iconst X1.here hx rfl (hb hby at_15) ?_
    show Steps p.tables e below (T1.setTop (mkF m 16 #[.val (.long r1), .second, .val (.long d1), .second, .val (.long r2), .second, .val (.long d2), .second, .val (.int fl), .val (.long (own_vr r1)), .second, .val (.long (d1 &&& (9223372036854775807 : Int64))), .second, .unset, .unset, .unset, .unset, .unset, .unset, .unset, .unset, .unset, .unset, .unset] [(.int (1 : Int32)), (.int fl)])) _
    refine XS.iand X1.here hx rfl (hb hby at_16) rfl ?_
    exact kt
  by_cases hc3 : (fl &&& (1 : Int32)) = (0 : Int32)
  · obtain ⟨_, _, ⟨T4, L4, k4, n4⟩, -, X4, ⟨Lc4, hQ4, l4, y4, z4⟩, st4⟩ := Jvm.LawKit.callS X1 hx (y := (⟨"com/example/tollwright/tollwright/planner/ContractHashCodePinLaw", "validRate", "(J)J"⟩ : MethodName)) hown (mvT hZ (hw _ (List.mem_of_getElem? (i := 0) rfl))) (mvT hZ (hw _ (List.mem_of_getElem? (i := 1) rfl))) (mvT hZ (hw _ (List.mem_of_getElem? (i := 2) rfl))) (mvT hZ (hw _ (List.mem_of_getElem? (i := 3) rfl))) (by decide) (backOf (W := 0) (rm1 l Z a0 hw [] r2 h0 n0 Z0) hZ (hw _ (List.mem_of_getElem? (i := 3) rfl)) (hw _ (List.mem_of_getElem? (i := 2) rfl)) (by decide) (by decide)) (g := (mkF m 39 #[.val (.long r1), .second, .val (.long d1), .second, .val (.long r2), .second, .val (.long d2), .second, .val (.int fl), .val (.long (own_vr r1)), .second, .val (.long (d1 &&& (9223372036854775807 : Int64))), .second, .val (.int (0 : Int32)), .unset, .unset, .unset, .unset, .unset, .unset, .unset, .unset, .unset, .unset] [(.long r2)])) rfl (by rw [hml]; rfl) (argsL := [(.long r2)]) (rest := []) (lenOf pd_0 rfl) rfl (by show 2 * 0 + _ ≤ _; exact Nat.le_of_eq rfl) (hb hby at_39) (fun _ _ => ⟨rfl, e1, (by decide : 0 + 0 ≤ _), (by decide : 0 + 0 ≤ _)⟩)
    dsimp only [Pt.U, Pt.locs, Pt.cells, Pt.slots] at X4 l4 y4 z4 st4 hQ4
    subst l4 y4 z4
    obtain ⟨rfl, N4q, e4⟩ := hQ4
    have N4 := Fr.app N1 N4q
    obtain ⟨T5, h5, X5, e5, E5, A5, D5, U5, st5⟩ := newO X4 hx hZ hown (hw _ (List.mem_of_getElem? (i := 5) rfl)) (hw _ (List.mem_of_getElem? (i := 6) rfl)) (hw _ (List.mem_of_getElem? (i := 7) rfl)) e4 (g := (mkF m 62 #[.val (.long r1), .second, .val (.long d1), .second, .val (.long r2), .second, .val (.long d2), .second, .val (.int fl), .val (.long (own_vr r1)), .second, .val (.long (d1 &&& (9223372036854775807 : Int64))), .second, .val (.int (0 : Int32)), .val (.long (own_vr r2)), .second, .val (.long (d2 &&& (9223372036854775807 : Int64))), .second, .unset, .unset, .unset, .unset, .unset, .unset] [])) rfl (hb hby at_62) (by decide) (by decide)
    obtain ⟨b5, g5⟩ : ∃ z, z = h0.size := ⟨_, rfl⟩
    rw [← g5] at A5 D5 U5 st5
    have g_b5 : n0 ≤ b5 := Nat.le_trans Z0 (Nat.le_of_eq g5.symm)
    have sz_b5 : h0.size ≤ b5 := Nat.le_trans (Keep.refl h0 []).1 (Nat.le_of_eq g5.symm)
    have z6 := Nat.le_trans Z0 E5.1
    have kp7 := (Keep.refl h0 []).ext E5
    have F_rate_b5 : Fld Z h5 b5 "com/example/tollwright/tollwright/planner/Contract" "rate" "J" (.long (0 : Int64)) := D5 (Or.inr (hw _ (List.mem_of_getElem? (i := 15) rfl))) (ty := .long) (by decide)
    have F_depth_b5 : Fld Z h5 b5 "com/example/tollwright/tollwright/planner/Contract" "depth" "J" (.long (0 : Int64)) := D5 (Or.inr (hw _ (List.mem_of_getElem? (i := 17) rfl))) (ty := .long) (by decide)
    obtain ⟨_, _, ⟨T8, L8, k8, n8⟩, -, X8, ⟨Lc8, hQ8, l8, y8, z8⟩, st8⟩ := X5.specialBack hx (y := (⟨"com/example/tollwright/tollwright/planner/Contract", "<init>", "(JJ)V"⟩ : MethodName)) rfl hown (mvT hZ (hw _ (List.mem_of_getElem? (i := 8) rfl))) (mvT hZ (hw _ (List.mem_of_getElem? (i := 9) rfl))) (mvT hZ (hw _ (List.mem_of_getElem? (i := 10) rfl))) (by decide) (backOf (W := 1) (rm2 l Z a0 hw [] b5 (own_vr r1) (d1 &&& (9223372036854775807 : Int64)) h5 n0 z6 A5 F_rate_b5 F_depth_b5 g_b5 (own_vr_pos r1) (own_mask d1)) hZ (hw _ (List.mem_of_getElem? (i := 10) rfl)) (hw _ (List.mem_of_getElem? (i := 7) rfl)) (by decide) (by decide)) (g := (mkF m 70 #[.val (.long r1), .second, .val (.long d1), .second, .val (.long r2), .second, .val (.long d2), .second, .val (.int fl), .val (.long (own_vr r1)), .second, .val (.long (d1 &&& (9223372036854775807 : Int64))), .second, .val (.int (0 : Int32)), .val (.long (own_vr r2)), .second, .val (.long (d2 &&& (9223372036854775807 : Int64))), .second, .unset, .unset, .unset, .unset, .unset, .unset] [(.long (d1 &&& (9223372036854775807 : Int64))), (.long (own_vr r1)), (.ref b5), (.ref b5)])) rfl (by rw [hml]; rfl) (Steps.refl _) (a := b5) (argsL := [(.long (own_vr r1)), (.long (d1 &&& (9223372036854775807 : Int64)))]) (rest := [(.ref b5)]) (lenOf pd_1 rfl) rfl (by show 2 * 0 + _ ≤ _; exact Nat.le_of_eq rfl) (hb hby at_70) (fun _ _ => ⟨rfl, e5, (by decide : 1 + 0 ≤ _), (by decide : 2 + 0 ≤ _)⟩)
    dsimp only [Pt.U, Pt.locs, Pt.cells, Pt.slots] at X8 l8 y8 z8 st8 hQ8
    subst l8 y8 z8
    obtain ⟨rfl, N8q, K8, Eo8, Fr8, Fd8⟩ := hQ8
    have N8 := Fr.app N4 N8q
    have f9 := A5.keep K8
    have z10 := Nat.le_trans z6 K8.1
    have kp11 := Keep.trans kp7 K8 (allS (Or.inr sz_b5) all0)
    obtain ⟨T12, h12, X12, e12, E12, A12, D12, U12, st12⟩ := newO X8 hx hZ hown (hw _ (List.mem_of_getElem? (i := 5) rfl)) (hw _ (List.mem_of_getElem? (i := 6) rfl)) (hw _ (List.mem_of_getElem? (i := 7) rfl)) rfl (g := (mkF m 75 #[.val (.long r1), .second, .val (.long d1), .second, .val (.long r2), .second, .val (.long d2), .second, .val (.int fl), .val (.long (own_vr r1)), .second, .val (.long (d1 &&& (9223372036854775807 : Int64))), .second, .val (.int (0 : Int32)), .val (.long (own_vr r2)), .second, .val (.long (d2 &&& (9223372036854775807 : Int64))), .second, .val (.ref b5), .unset, .unset, .unset, .unset, .unset] [])) rfl (hb hby at_75) (by decide) (by decide)
    obtain ⟨b12, g12⟩ : ∃ z, z = T8.heap.size := ⟨_, rfl⟩
    rw [← g12] at A12 D12 U12 st12
    have ne_b5_b12 : b5 ≠ b12 := Nat.ne_of_lt (Nat.lt_of_lt_of_le Eo8.lt (Nat.le_of_eq g12.symm))
    have g_b12 : n0 ≤ b12 := Nat.le_trans z10 (Nat.le_of_eq g12.symm)
    have sz_b12 : h0.size ≤ b12 := Nat.le_trans kp11.1 (Nat.le_of_eq g12.symm)
    have f13 := Eo8.ext E12
    have f14 := Fr8.ext E12
    have f15 := Fd8.ext E12
    have z16 := Nat.le_trans z10 E12.1
    have kp17 := kp11.ext E12
    have F_rate_b12 : Fld Z h12 b12 "com/example/tollwright/tollwright/planner/Contract" "rate" "J" (.long (0 : Int64)) := D12 (Or.inr (hw _ (List.mem_of_getElem? (i := 15) rfl))) (ty := .long) (by decide)
    have F_depth_b12 : Fld Z h12 b12 "com/example/tollwright/tollwright/planner/Contract" "depth" "J" (.long (0 : Int64)) := D12 (Or.inr (hw _ (List.mem_of_getElem? (i := 17) rfl))) (ty := .long) (by decide)
    obtain ⟨_, _, ⟨T18, L18, k18, n18⟩, -, X18, ⟨Lc18, hQ18, l18, y18, z18⟩, st18⟩ := X12.specialBack hx (y := (⟨"com/example/tollwright/tollwright/planner/Contract", "<init>", "(JJ)V"⟩ : MethodName)) rfl hown (mvT hZ (hw _ (List.mem_of_getElem? (i := 8) rfl))) (mvT hZ (hw _ (List.mem_of_getElem? (i := 9) rfl))) (mvT hZ (hw _ (List.mem_of_getElem? (i := 10) rfl))) (by decide) (backOf (W := 1) (rm2 l Z a0 hw [] b12 (own_vr r2) (d2 &&& (9223372036854775807 : Int64)) h12 n0 z16 A12 F_rate_b12 F_depth_b12 g_b12 (own_vr_pos r2) (own_mask d2)) hZ (hw _ (List.mem_of_getElem? (i := 10) rfl)) (hw _ (List.mem_of_getElem? (i := 7) rfl)) (by decide) (by decide)) (g := (mkF m 83 #[.val (.long r1), .second, .val (.long d1), .second, .val (.long r2), .second, .val (.long d2), .second, .val (.int fl), .val (.long (own_vr r1)), .second, .val (.long (d1 &&& (9223372036854775807 : Int64))), .second, .val (.int (0 : Int32)), .val (.long (own_vr r2)), .second, .val (.long (d2 &&& (9223372036854775807 : Int64))), .second, .val (.ref b5), .unset, .unset, .unset, .unset, .unset] [(.long (d2 &&& (9223372036854775807 : Int64))), (.long (own_vr r2)), (.ref b12), (.ref b12)])) rfl (by rw [hml]; rfl) (Steps.refl _) (a := b12) (argsL := [(.long (own_vr r2)), (.long (d2 &&& (9223372036854775807 : Int64)))]) (rest := [(.ref b12)]) (lenOf pd_1 rfl) rfl (by show 2 * 0 + _ ≤ _; exact Nat.le_of_eq rfl) (hb hby at_83) (fun _ _ => ⟨rfl, e12, (by decide : 2 + 0 ≤ _), (by decide : 4 + 0 ≤ _)⟩)
    dsimp only [Pt.U, Pt.locs, Pt.cells, Pt.slots] at X18 l18 y18 z18 st18 hQ18
    subst l18 y18 z18
    obtain ⟨rfl, N18q, K18, Eo18, Fr18, Fd18⟩ := hQ18
    have N18 := Fr.app N8 N18q
    have f19 := f13.keep K18
    have f20 := f14.keep K18 (ninS ne_b5_b12 nin0)
    have f21 := f15.keep K18 (ninS ne_b5_b12 nin0)
    have f22 := A12.keep K18
    have z23 := Nat.le_trans z16 K18.1
    have kp24 := Keep.trans kp17 K18 (allS (Or.inr sz_b12) all0)
    obtain ⟨cq25, kq25, q25a, q25b, q25c⟩ := isOf hZ rfl f19
    obtain ⟨_, _, ⟨T25, L25, k25, n25⟩, -, X25, ⟨Lc25, hQ25, l25, y25, z25⟩, st25⟩ := X18.virtualBack hx (y := (⟨"com/example/tollwright/tollwright/planner/Contract", "hashCode", "()I"⟩ : MethodName)) (z := (⟨"com/example/tollwright/tollwright/planner/Contract", "hashCode", "()I"⟩ : MethodName)) hown (mvT hZ (hw _ (List.mem_of_getElem? (i := 18) rfl))) (mvT hZ (hw _ (List.mem_of_getElem? (i := 19) rfl))) (notFace_of_selects (args := #[]) (mvT hZ (hw _ (List.mem_of_getElem? (i := 21) rfl)))) (mvT hZ (hw _ (List.mem_of_getElem? (i := 21) rfl))) (mvT hZ (hw _ (List.mem_of_getElem? (i := 20) rfl))) (by decide) (backOf (W := 0) (rm4 l Z a0 hw [] b5 (own_vr r1) (d1 &&& (9223372036854775807 : Int64)) T18.heap n0 z23 f20 f21) hZ (hw _ (List.mem_of_getElem? (i := 22) rfl)) (hw _ (List.mem_of_getElem? (i := 7) rfl)) (by decide) (by decide)) q25a q25c (g := (mkF m 90 #[.val (.long r1), .second, .val (.long d1), .second, .val (.long r2), .second, .val (.long d2), .second, .val (.int fl), .val (.long (own_vr r1)), .second, .val (.long (d1 &&& (9223372036854775807 : Int64))), .second, .val (.int (0 : Int32)), .val (.long (own_vr r2)), .second, .val (.long (d2 &&& (9223372036854775807 : Int64))), .second, .val (.ref b5), .val (.ref b12), .unset, .unset, .unset, .unset] [(.ref b5)])) rfl (by rw [hml]; rfl) (Steps.refl _) (argsL := []) (rest := []) (lenOf pd_3 rfl) rfl (by show 2 * 0 + _ ≤ _; exact Nat.le_of_eq rfl) (hb hby at_90) (fun _ _ => ⟨rfl, rfl, (by decide : 2 + 0 ≤ _), (by decide : 4 + 0 ≤ _)⟩)
    dsimp only [Pt.U, Pt.locs, Pt.cells, Pt.slots] at X25 l25 y25 z25 st25 hQ25
    subst l25 y25 z25
    obtain ⟨rfl, N25q, e25⟩ := hQ25
    have N25 := Fr.app N18 N25q
    obtain ⟨cq26, kq26, q26a, q26b, q26c⟩ := isOf hZ e25 Eo18
    obtain ⟨_, _, ⟨T26, L26, k26, n26⟩, -, X26, ⟨Lc26, hQ26, l26, y26, z26⟩, st26⟩ := X25.virtualBack hx (y := (⟨"com/example/tollwright/tollwright/planner/Contract", "hashCode", "()I"⟩ : MethodName)) (z := (⟨"com/example/tollwright/tollwright/planner/Contract", "hashCode", "()I"⟩ : MethodName)) hown (mvT hZ (hw _ (List.mem_of_getElem? (i := 18) rfl))) (mvT hZ (hw _ (List.mem_of_getElem? (i := 19) rfl))) (notFace_of_selects (args := #[]) (mvT hZ (hw _ (List.mem_of_getElem? (i := 21) rfl)))) (mvT hZ (hw _ (List.mem_of_getElem? (i := 21) rfl))) (mvT hZ (hw _ (List.mem_of_getElem? (i := 20) rfl))) (by decide) (backOf (W := 0) (rm4 l Z a0 hw [] b12 (own_vr r2) (d2 &&& (9223372036854775807 : Int64)) T18.heap n0 z23 Fr18 Fd18) hZ (hw _ (List.mem_of_getElem? (i := 22) rfl)) (hw _ (List.mem_of_getElem? (i := 7) rfl)) (by decide) (by decide)) q26a q26c (g := (mkF m 97 #[.val (.long r1), .second, .val (.long d1), .second, .val (.long r2), .second, .val (.long d2), .second, .val (.int fl), .val (.long (own_vr r1)), .second, .val (.long (d1 &&& (9223372036854775807 : Int64))), .second, .val (.int (0 : Int32)), .val (.long (own_vr r2)), .second, .val (.long (d2 &&& (9223372036854775807 : Int64))), .second, .val (.ref b5), .val (.ref b12), .val (.int (own_ha (own_vr r1) (d1 &&& (9223372036854775807 : Int64)))), .unset, .unset, .unset] [(.ref b12)])) rfl (by rw [hml]; rfl) (Steps.refl _) (argsL := []) (rest := []) (lenOf pd_3 rfl) rfl (by show 2 * 0 + _ ≤ _; exact Nat.le_of_eq rfl) (hb hby at_97) (fun _ _ => ⟨rfl, e25, (by decide : 2 + 0 ≤ _), (by decide : 4 + 0 ≤ _)⟩)
    dsimp only [Pt.U, Pt.locs, Pt.cells, Pt.slots] at X26 l26 y26 z26 st26 hQ26
    subst l26 y26 z26
    obtain ⟨rfl, N26q, e26⟩ := hQ26
    have N26 := Fr.app N25 N26q
    obtain ⟨_, _, ⟨T27, L27, k27, n27⟩, -, X27, ⟨Lc27, hQ27, l27, y27, z27⟩, st27⟩ := Jvm.LawKit.callS X26 hx (y := (⟨"com/example/tollwright/tollwright/planner/ContractHashCodePinLaw", "fold", "(J)I"⟩ : MethodName)) hown (mvT hZ (hw _ (List.mem_of_getElem? (i := 27) rfl))) (mvT hZ (hw _ (List.mem_of_getElem? (i := 28) rfl))) (mvT hZ (hw _ (List.mem_of_getElem? (i := 2) rfl))) (mvT hZ (hw _ (List.mem_of_getElem? (i := 29) rfl))) (by decide) (backOf (W := 0) (rm6 l Z a0 hw [] (own_vr r1) T18.heap n0 z23) hZ (hw _ (List.mem_of_getElem? (i := 29) rfl)) (hw _ (List.mem_of_getElem? (i := 2) rfl)) (by decide) (by decide)) (g := (mkF m 104 #[.val (.long r1), .second, .val (.long d1), .second, .val (.long r2), .second, .val (.long d2), .second, .val (.int fl), .val (.long (own_vr r1)), .second, .val (.long (d1 &&& (9223372036854775807 : Int64))), .second, .val (.int (0 : Int32)), .val (.long (own_vr r2)), .second, .val (.long (d2 &&& (9223372036854775807 : Int64))), .second, .val (.ref b5), .val (.ref b12), .val (.int (own_ha (own_vr r1) (d1 &&& (9223372036854775807 : Int64)))), .val (.int (own_ha (own_vr r2) (d2 &&& (9223372036854775807 : Int64)))), .unset, .unset] [(.long (own_vr r1))])) rfl (by rw [hml]; rfl) (argsL := [(.long (own_vr r1))]) (rest := []) (lenOf pd_4 rfl) rfl (by show 2 * 0 + _ ≤ _; exact Nat.le_of_eq rfl) (hb hby at_104) (fun _ _ => ⟨rfl, e26, (by decide : 2 + 0 ≤ _), (by decide : 4 + 0 ≤ _)⟩)
    dsimp only [Pt.U, Pt.locs, Pt.cells, Pt.slots] at X27 l27 y27 z27 st27 hQ27
    subst l27 y27 z27
    obtain ⟨rfl, N27q, e27⟩ := hQ27
    have N27 := Fr.app N26 N27q
    obtain ⟨_, _, ⟨T28, L28, k28, n28⟩, -, X28, ⟨Lc28, hQ28, l28, y28, z28⟩, st28⟩ := Jvm.LawKit.callS X27 hx (y := (⟨"com/example/tollwright/tollwright/planner/ContractHashCodePinLaw", "fold", "(J)I"⟩ : MethodName)) hown (mvT hZ (hw _ (List.mem_of_getElem? (i := 27) rfl))) (mvT hZ (hw _ (List.mem_of_getElem? (i := 28) rfl))) (mvT hZ (hw _ (List.mem_of_getElem? (i := 2) rfl))) (mvT hZ (hw _ (List.mem_of_getElem? (i := 29) rfl))) (by decide) (backOf (W := 1) (rm6 l Z a0 hw [] (d1 &&& (9223372036854775807 : Int64)) T18.heap n0 z23) hZ (hw _ (List.mem_of_getElem? (i := 29) rfl)) (hw _ (List.mem_of_getElem? (i := 2) rfl)) (by decide) (by decide)) (g := (mkF m 112 #[.val (.long r1), .second, .val (.long d1), .second, .val (.long r2), .second, .val (.long d2), .second, .val (.int fl), .val (.long (own_vr r1)), .second, .val (.long (d1 &&& (9223372036854775807 : Int64))), .second, .val (.int (0 : Int32)), .val (.long (own_vr r2)), .second, .val (.long (d2 &&& (9223372036854775807 : Int64))), .second, .val (.ref b5), .val (.ref b12), .val (.int (own_ha (own_vr r1) (d1 &&& (9223372036854775807 : Int64)))), .val (.int (own_ha (own_vr r2) (d2 &&& (9223372036854775807 : Int64)))), .unset, .unset] [(.long (d1 &&& (9223372036854775807 : Int64))), (.int ((own_fo (own_vr r1)) * (31 : Int32)))])) rfl (by rw [hml]; rfl) (argsL := [(.long (d1 &&& (9223372036854775807 : Int64)))]) (rest := [(.int ((own_fo (own_vr r1)) * (31 : Int32)))]) (lenOf pd_4 rfl) rfl (by show 2 * 0 + _ ≤ _; exact Nat.le_of_eq rfl) (hb hby at_112) (fun _ _ => ⟨rfl, e27, (by decide : 2 + 0 ≤ _), (by decide : 4 + 0 ≤ _)⟩)
    dsimp only [Pt.U, Pt.locs, Pt.cells, Pt.slots] at X28 l28 y28 z28 st28 hQ28
    subst l28 y28 z28
    obtain ⟨rfl, N28q, e28⟩ := hQ28
    have N28 := Fr.app N27 N28q
    obtain ⟨_, _, ⟨T29, L29, k29, n29⟩, -, X29, ⟨Lc29, hQ29, l29, y29, z29⟩, st29⟩ := Jvm.LawKit.callS X28 hx (y := (⟨"com/example/tollwright/tollwright/planner/ContractHashCodePinLaw", "fold", "(J)I"⟩ : MethodName)) hown (mvT hZ (hw _ (List.mem_of_getElem? (i := 27) rfl))) (mvT hZ (hw _ (List.mem_of_getElem? (i := 28) rfl))) (mvT hZ (hw _ (List.mem_of_getElem? (i := 2) rfl))) (mvT hZ (hw _ (List.mem_of_getElem? (i := 29) rfl))) (by decide) (backOf (W := 0) (rm6 l Z a0 hw [] (own_vr r2) T18.heap n0 z23) hZ (hw _ (List.mem_of_getElem? (i := 29) rfl)) (hw _ (List.mem_of_getElem? (i := 2) rfl)) (by decide) (by decide)) (g := (mkF m 120 #[.val (.long r1), .second, .val (.long d1), .second, .val (.long r2), .second, .val (.long d2), .second, .val (.int fl), .val (.long (own_vr r1)), .second, .val (.long (d1 &&& (9223372036854775807 : Int64))), .second, .val (.int (0 : Int32)), .val (.long (own_vr r2)), .second, .val (.long (d2 &&& (9223372036854775807 : Int64))), .second, .val (.ref b5), .val (.ref b12), .val (.int (own_ha (own_vr r1) (d1 &&& (9223372036854775807 : Int64)))), .val (.int (own_ha (own_vr r2) (d2 &&& (9223372036854775807 : Int64)))), .val (.int (((own_fo (own_vr r1)) * (31 : Int32)) + (own_fo (d1 &&& (9223372036854775807 : Int64))))), .unset] [(.long (own_vr r2))])) rfl (by rw [hml]; rfl) (argsL := [(.long (own_vr r2))]) (rest := []) (lenOf pd_4 rfl) rfl (by show 2 * 0 + _ ≤ _; exact Nat.le_of_eq rfl) (hb hby at_120) (fun _ _ => ⟨rfl, e28, (by decide : 2 + 0 ≤ _), (by decide : 4 + 0 ≤ _)⟩)
    dsimp only [Pt.U, Pt.locs, Pt.cells, Pt.slots] at X29 l29 y29 z29 st29 hQ29
    subst l29 y29 z29
    obtain ⟨rfl, N29q, e29⟩ := hQ29
    have N29 := Fr.app N28 N29q
    obtain ⟨_, _, ⟨T30, L30, k30, n30⟩, -, X30, ⟨Lc30, hQ30, l30, y30, z30⟩, st30⟩ := Jvm.LawKit.callS X29 hx (y := (⟨"com/example/tollwright/tollwright/planner/ContractHashCodePinLaw", "fold", "(J)I"⟩ : MethodName)) hown (mvT hZ (hw _ (List.mem_of_getElem? (i := 27) rfl))) (mvT hZ (hw _ (List.mem_of_getElem? (i := 28) rfl))) (mvT hZ (hw _ (List.mem_of_getElem? (i := 2) rfl))) (mvT hZ (hw _ (List.mem_of_getElem? (i := 29) rfl))) (by decide) (backOf (W := 1) (rm6 l Z a0 hw [] (d2 &&& (9223372036854775807 : Int64)) T18.heap n0 z23) hZ (hw _ (List.mem_of_getElem? (i := 29) rfl)) (hw _ (List.mem_of_getElem? (i := 2) rfl)) (by decide) (by decide)) (g := (mkF m 128 #[.val (.long r1), .second, .val (.long d1), .second, .val (.long r2), .second, .val (.long d2), .second, .val (.int fl), .val (.long (own_vr r1)), .second, .val (.long (d1 &&& (9223372036854775807 : Int64))), .second, .val (.int (0 : Int32)), .val (.long (own_vr r2)), .second, .val (.long (d2 &&& (9223372036854775807 : Int64))), .second, .val (.ref b5), .val (.ref b12), .val (.int (own_ha (own_vr r1) (d1 &&& (9223372036854775807 : Int64)))), .val (.int (own_ha (own_vr r2) (d2 &&& (9223372036854775807 : Int64)))), .val (.int (((own_fo (own_vr r1)) * (31 : Int32)) + (own_fo (d1 &&& (9223372036854775807 : Int64))))), .unset] [(.long (d2 &&& (9223372036854775807 : Int64))), (.int ((own_fo (own_vr r2)) * (31 : Int32)))])) rfl (by rw [hml]; rfl) (argsL := [(.long (d2 &&& (9223372036854775807 : Int64)))]) (rest := [(.int ((own_fo (own_vr r2)) * (31 : Int32)))]) (lenOf pd_4 rfl) rfl (by show 2 * 0 + _ ≤ _; exact Nat.le_of_eq rfl) (hb hby at_128) (fun _ _ => ⟨rfl, e29, (by decide : 2 + 0 ≤ _), (by decide : 4 + 0 ≤ _)⟩)
    dsimp only [Pt.U, Pt.locs, Pt.cells, Pt.slots] at X30 l30 y30 z30 st30 hQ30
    subst l30 y30 z30
    obtain ⟨rfl, N30q, e30⟩ := hQ30
    have N30 := Fr.app N29 N30q
    obtain ⟨cq31, kq31, q31a, q31b, q31c⟩ := isOf hZ e30 f19
    obtain ⟨_, _, ⟨T31, L31, k31, n31⟩, -, X31, ⟨Lc31, hQ31, l31, y31, z31⟩, st31⟩ := X30.virtualBack hx (y := (⟨"com/example/tollwright/tollwright/planner/Contract", "equals", "(Ljava/lang/Object;)Z"⟩ : MethodName)) (z := (⟨"com/example/tollwright/tollwright/planner/Contract", "equals", "(Ljava/lang/Object;)Z"⟩ : MethodName)) hown (mvT hZ (hw _ (List.mem_of_getElem? (i := 30) rfl))) (mvT hZ (hw _ (List.mem_of_getElem? (i := 31) rfl))) (notFace_of_selects (args := #[]) (mvT hZ (hw _ (List.mem_of_getElem? (i := 33) rfl)))) (mvT hZ (hw _ (List.mem_of_getElem? (i := 33) rfl))) (mvT hZ (hw _ (List.mem_of_getElem? (i := 32) rfl))) (by decide) (backOf (W := 0) (rm7 l Z a0 hw [] b5 b12 (own_vr r1) (d1 &&& (9223372036854775807 : Int64)) (own_vr r2) (d2 &&& (9223372036854775807 : Int64)) T18.heap n0 z23 Eo18 f20 f21 Fr18 Fd18) hZ (hw _ (List.mem_of_getElem? (i := 34) rfl)) (hw _ (List.mem_of_getElem? (i := 7) rfl)) (by decide) (by decide)) q31a q31c (g := (mkF m 154 #[.val (.long r1), .second, .val (.long d1), .second, .val (.long r2), .second, .val (.long d2), .second, .val (.int fl), .val (.long (own_vr r1)), .second, .val (.long (d1 &&& (9223372036854775807 : Int64))), .second, .val (.int (0 : Int32)), .val (.long (own_vr r2)), .second, .val (.long (d2 &&& (9223372036854775807 : Int64))), .second, .val (.ref b5), .val (.ref b12), .val (.int (own_ha (own_vr r1) (d1 &&& (9223372036854775807 : Int64)))), .val (.int (own_ha (own_vr r2) (d2 &&& (9223372036854775807 : Int64)))), .val (.int (((own_fo (own_vr r1)) * (31 : Int32)) + (own_fo (d1 &&& (9223372036854775807 : Int64))))), .val (.int (((own_fo (own_vr r2)) * (31 : Int32)) + (own_fo (d2 &&& (9223372036854775807 : Int64)))))] [(.ref b12), (.ref b5)])) rfl (by rw [hml]; rfl) (Steps.refl _) (argsL := [(.ref b12)]) (rest := []) (lenOf pd_5 rfl) rfl (by show 2 * 0 + _ ≤ _; exact Nat.le_of_eq rfl) (hb hby at_154) (fun _ _ => ⟨rfl, e30, (by decide : 2 + 0 ≤ _), (by decide : 4 + 0 ≤ _)⟩)
    dsimp only [Pt.U, Pt.locs, Pt.cells, Pt.slots] at X31 l31 y31 z31 st31 hQ31
    subst l31 y31 z31
    obtain ⟨rfl, N31q, e31⟩ := hQ31
    have N31 := Fr.app N30 N31q
    have k32 : ∀ tq, Steps p.tables e below (T31.setTop (mkF m 157 #[.val (.long r1), .second, .val (.long d1), .second, .val (.long r2), .second, .val (.long d2), .second, .val (.int fl), .val (.long (own_vr r1)), .second, .val (.long (d1 &&& (9223372036854775807 : Int64))), .second, .val (.int (0 : Int32)), .val (.long (own_vr r2)), .second, .val (.long (d2 &&& (9223372036854775807 : Int64))), .second, .val (.ref b5), .val (.ref b12), .val (.int (own_ha (own_vr r1) (d1 &&& (9223372036854775807 : Int64)))), .val (.int (own_ha (own_vr r2) (d2 &&& (9223372036854775807 : Int64)))), .val (.int (((own_fo (own_vr r1)) * (31 : Int32)) + (own_fo (d1 &&& (9223372036854775807 : Int64))))), .val (.int (((own_fo (own_vr r2)) * (31 : Int32)) + (own_fo (d2 &&& (9223372036854775807 : Int64)))))] [(.int (own_eq (own_vr r1) (d1 &&& (9223372036854775807 : Int64)) (own_vr r2) (d2 &&& (9223372036854775807 : Int64))))])) tq → Steps p.tables e below (s₁.setTop (entryFrame m #[(.long r1), (.long d1), (.long r2), (.long d2), (.int fl)] maxLocals)) tq := by
      intro tq kt
      refine k2 tq ?_
      show Steps p.tables e below (T1.setTop (mkF m 17 #[.val (.long r1), .second, .val (.long d1), .second, .val (.long r2), .second, .val (.long d2), .second, .val (.int fl), .val (.long (own_vr r1)), .second, .val (.long (d1 &&& (9223372036854775807 : Int64))), .second, .unset, .unset, .unset, .unset, .unset, .unset, .unset, .unset, .unset, .unset, .unset] [(.int (fl &&& (1 : Int32)))])) _
      refine XS.ifYes X1.here hx rfl (pc0 := 17) (pc' := 24) rfl (hb hby at_17) rfl ((if0 _ _).trans (teq hc3).1) (by decide) (by decide) ?_
      show Steps p.tables e below (T1.setTop (mkF m 24 #[.val (.long r1), .second, .val (.long d1), .second, .val (.long r2), .second, .val (.long d2), .second, .val (.int fl), .val (.long (own_vr r1)), .second, .val (.long (d1 &&& (9223372036854775807 : Int64))), .second, .unset, .unset, .unset, .unset, .unset, .unset, .unset, .unset, .unset, .unset, .unset] [])) _
      refine XS.iconst X1.here hx rfl (hb hby at_24) ?_
      show Steps p.tables e below (T1.setTop (mkF m 25 #[.val (.long r1), .second, .val (.long d1), .second, .val (.long r2), .second, .val (.long d2), .second, .val (.int fl), .val (.long (own_vr r1)), .second, .val (.long (d1 &&& (9223372036854775807 : Int64))), .second, .unset, .unset, .unset, .unset, .unset, .unset, .unset, .unset, .unset, .unset, .unset] [(.int (0 : Int32))])) _
      refine XS.istore X1.here hx rfl (hb hby at_25) rfl (l' := #[.val (.long r1), .second, .val (.long d1), .second, .val (.long r2), .second, .val (.long d2), .second, .val (.int fl), .val (.long (own_vr r1)), .second, .val (.long (d1 &&& (9223372036854775807 : Int64))), .second, .val (.int (0 : Int32)), .unset, .unset, .unset, .unset, .unset, .unset, .unset, .unset, .unset, .unset]) rfl ?_
      show Steps p.tables e below (T1.setTop (mkF m 27 #[.val (.long r1), .second, .val (.long d1), .second, .val (.long r2), .second, .val (.long d2), .second, .val (.int fl), .val (.long (own_vr r1)), .second, .val (.long (d1 &&& (9223372036854775807 : Int64))), .second, .val (.int (0 : Int32)), .unset, .unset, .unset, .unset, .unset, .unset, .unset, .unset, .unset, .unset] [])) _
      refine XS.iload X1.here hx rfl (hb hby at_27) rfl ?_
      show Steps p.tables e below (T1.setTop (mkF m 29 #[.val (.long r1), .second, .val (.long d1), .second, .val (.long r2), .second, .val (.long d2), .second, .val (.int fl), .val (.long (own_vr r1)), .second, .val (.long (d1 &&& (9223372036854775807 : Int64))), .second, .val (.int (0 : Int32)), .unset, .unset, .unset, .unset, .unset, .unset, .unset, .unset, .unset, .unset] [(.int (0 : Int32))])) _
      refine XS.ifYes X1.here hx rfl (pc0 := 29) (pc' := 37) rfl (hb hby at_29) rfl ((if0 _ _).trans (teq (rfl : (0 : Int32) = (0 : Int32))).1) (by decide) (by decide) ?_
      show Steps p.tables e below (T1.setTop (mkF m 37 #[.val (.long r1), .second, .val (.long d1), .second, .val (.long r2), .second, .val (.long d2), .second, .val (.int fl), .val (.long (own_vr r1)), .second, .val (.long (d1 &&& (9223372036854775807 : Int64))), .second, .val (.int (0 : Int32)), .unset, .unset, .unset, .unset, .unset, .unset, .unset, .unset, .unset, .unset] [])) _
      refine XS.lload X1.here hx rfl (hb hby at_37) rfl ?_
      show Steps p.tables e below (T1.setTop (mkF m 39 #[.val (.long r1), .second, .val (.long d1), .second, .val (.long r2), .second, .val (.long d2), .second, .val (.int fl), .val (.long (own_vr r1)), .second, .val (.long (d1 &&& (9223372036854775807 : Int64))), .second, .val (.int (0 : Int32)), .unset, .unset, .unset, .unset, .unset, .unset, .unset, .unset, .unset, .unset] [(.long r2)])) _
      refine st4 _ ?_
      show Steps p.tables e below (T4.setTop (mkF m 42 #[.val (.long r1), .second, .val (.long d1), .second, .val (.long r2), .second, .val (.long d2), .second, .val (.int fl), .val (.long (own_vr r1)), .second, .val (.long (d1 &&& (9223372036854775807 : Int64))), .second, .val (.int (0 : Int32)), .unset, .unset, .unset, .unset, .unset, .unset, .unset, .unset, .unset, .unset] [(.long (own_vr r2))])) _
      refine XS.lstore X4.here hx rfl (hb hby at_42) rfl (l' := #[.val (.long r1), .second, .val (.long d1), .second, .val (.long r2), .second, .val (.long d2), .second, .val (.int fl), .val (.long (own_vr r1)), .second, .val (.long (d1 &&& (9223372036854775807 : Int64))), .second, .val (.int (0 : Int32)), .val (.long (own_vr r2)), .second, .unset, .unset, .unset, .unset, .unset, .unset, .unset, .unset]) rfl ?_
      show Steps p.tables e below (T4.setTop (mkF m 44 #[.val (.long r1), .second, .val (.long d1), .second, .val (.long r2), .second, .val (.long d2), .second, .val (.int fl), .val (.long (own_vr r1)), .second, .val (.long (d1 &&& (9223372036854775807 : Int64))), .second, .val (.int (0 : Int32)), .val (.long (own_vr r2)), .second, .unset, .unset, .unset, .unset, .unset, .unset, .unset, .unset] [])) _
      refine XS.iload X4.here hx rfl (hb hby at_44) rfl ?_
      show Steps p.tables e below (T4.setTop (mkF m 46 #[.val (.long r1), .second, .val (.long d1), .second, .val (.long r2), .second, .val (.long d2), .second, .val (.int fl), .val (.long (own_vr r1)), .second, .val (.long (d1 &&& (9223372036854775807 : Int64))), .second, .val (.int (0 : Int32)), .val (.long (own_vr r2)), .second, .unset, .unset, .unset, .unset, .unset, .unset, .unset, .unset] [(.int (0 : Int32))])) _
      refine XS.ifYes X4.here hx rfl (pc0 := 46) (pc' := 54) rfl (hb hby at_46) rfl ((if0 _ _).trans (teq (rfl : (0 : Int32) = (0 : Int32))).1) (by decide) (by decide) ?_
      show Steps p.tables e below (T4.setTop (mkF m 54 #[.val (.long r1), .second, .val (.long d1), .second, .val (.long r2), .second, .val (.long d2), .second, .val (.int fl), .val (.long (own_vr r1)), .second, .val (.long (d1 &&& (9223372036854775807 : Int64))), .second, .val (.int (0 : Int32)), .val (.long (own_vr r2)), .second, .unset, .unset, .unset, .unset, .unset, .unset, .unset, .unset] [])) _
      refine XS.lload X4.here hx rfl (hb hby at_54) rfl ?_
      show Steps p.tables e below (T4.setTop (mkF m 56 #[.val (.long r1), .second, .val (.long d1), .second, .val (.long r2), .second, .val (.long d2), .second, .val (.int fl), .val (.long (own_vr r1)), .second, .val (.long (d1 &&& (9223372036854775807 : Int64))), .second, .val (.int (0 : Int32)), .val (.long (own_vr r2)), .second, .unset, .unset, .unset, .unset, .unset, .unset, .unset, .unset] [(.long d2)])) _
      refine X4.ldc2Long hx hown (mvT hZ (hw _ (List.mem_of_getElem? (i := 4) rfl))) (g := (mkF m 56 #[.val (.long r1), .second, .val (.long d1), .second, .val (.long r2), .second, .val (.long d2), .second, .val (.int fl), .val (.long (own_vr r1)), .second, .val (.long (d1 &&& (9223372036854775807 : Int64))), .second, .val (.int (0 : Int32)), .val (.long (own_vr r2)), .second, .unset, .unset, .unset, .unset, .unset, .unset, .unset, .unset] [(.long d2)])) rfl (hb hby at_56) _ ?_
      show Steps p.tables e below (T4.setTop (mkF m 59 #[.val (.long r1), .second, .val (.long d1), .second, .val (.long r2), .second, .val (.long d2), .second, .val (.int fl), .val (.long (own_vr r1)), .second, .val (.long (d1 &&& (9223372036854775807 : Int64))), .second, .val (.int (0 : Int32)), .val (.long (own_vr r2)), .second, .unset, .unset, .unset, .unset, .unset, .unset, .unset, .unset] [(.long (9223372036854775807 : Int64)), (.long d2)])) _
      refine XS.land X4.here hx rfl (hb hby at_59) rfl ?_
      show Steps p.tables e below (T4.setTop (mkF m 60 #[.val (.long r1), .second, .val (.long d1), .second, .val (.long r2), .second, .val (.long d2), .second, .val (.int fl), .val (.long (own_vr r1)), .second, .val (.long (d1 &&& (9223372036854775807 : Int64))), .second, .val (.int (0 : Int32)), .val (.long (own_vr r2)), .second, .unset, .unset, .unset, .unset, .unset, .unset, .unset, .unset] [(.long (d2 &&& (9223372036854775807 : Int64)))])) _
      refine XS.lstore X4.here hx rfl (hb hby at_60) rfl (l' := #[.val (.long r1), .second, .val (.long d1), .second, .val (.long r2), .second, .val (.long d2), .second, .val (.int fl), .val (.long (own_vr r1)), .second, .val (.long (d1 &&& (9223372036854775807 : Int64))), .second, .val (.int (0 : Int32)), .val (.long (own_vr r2)), .second, .val (.long (d2 &&& (9223372036854775807 : Int64))), .second, .unset, .unset, .unset, .unset, .unset, .unset]) rfl ?_
      show Steps p.tables e below (T4.setTop (mkF m 62 #[.val (.long r1), .second, .val (.long d1), .second, .val (.long r2), .second, .val (.long d2), .second, .val (.int fl), .val (.long (own_vr r1)), .second, .val (.long (d1 &&& (9223372036854775807 : Int64))), .second, .val (.int (0 : Int32)), .val (.long (own_vr r2)), .second, .val (.long (d2 &&& (9223372036854775807 : Int64))), .second, .unset, .unset, .unset, .unset, .unset, .unset] [])) _
      refine st5 _ ?_
      show Steps p.tables e below (T5.setTop (mkF m 65 #[.val (.long r1), .second, .val (.long d1), .second, .val (.long r2), .second, .val (.long d2), .second, .val (.int fl), .val (.long (own_vr r1)), .second, .val (.long (d1 &&& (9223372036854775807 : Int64))), .second, .val (.int (0 : Int32)), .val (.long (own_vr r2)), .second, .val (.long (d2 &&& (9223372036854775807 : Int64))), .second, .unset, .unset, .unset, .unset, .unset, .unset] [(.ref b5)])) _
      refine XS.dup X5.here hx rfl (hb hby at_65) rfl rfl ?_
      show Steps p.tables e below (T5.setTop (mkF m 66 #[.val (.long r1), .second, .val (.long d1), .second, .val (.long r2), .second, .val (.long d2), .second, .val (.int fl), .val (.long (own_vr r1)), .second, .val (.long (d1 &&& (9223372036854775807 : Int64))), .second, .val (.int (0 : Int32)), .val (.long (own_vr r2)), .second, .val (.long (d2 &&& (9223372036854775807 : Int64))), .second, .unset, .unset, .unset, .unset, .unset, .unset] [(.ref b5), (.ref b5)])) _
      refine XS.lload X5.here hx rfl (hb hby at_66) rfl ?_
      show Steps p.tables e below (T5.setTop (mkF m 68 #[.val (.long r1), .second, .val (.long d1), .second, .val (.long r2), .second, .val (.long d2), .second, .val (.int fl), .val (.long (own_vr r1)), .second, .val (.long (d1 &&& (9223372036854775807 : Int64))), .second, .val (.int (0 : Int32)), .val (.long (own_vr r2)), .second, .val (.long (d2 &&& (9223372036854775807 : Int64))), .second, .unset, .unset, .unset, .unset, .unset, .unset] [(.long (own_vr r1)), (.ref b5), (.ref b5)])) _
      refine XS.lload X5.here hx rfl (hb hby at_68) rfl ?_
      show Steps p.tables e below (T5.setTop (mkF m 70 #[.val (.long r1), .second, .val (.long d1), .second, .val (.long r2), .second, .val (.long d2), .second, .val (.int fl), .val (.long (own_vr r1)), .second, .val (.long (d1 &&& (9223372036854775807 : Int64))), .second, .val (.int (0 : Int32)), .val (.long (own_vr r2)), .second, .val (.long (d2 &&& (9223372036854775807 : Int64))), .second, .unset, .unset, .unset, .unset, .unset, .unset] [(.long (d1 &&& (9223372036854775807 : Int64))), (.long (own_vr r1)), (.ref b5), (.ref b5)])) _
      refine st8.trans ?_
      show Steps p.tables e below (T8.setTop (mkF m 73 #[.val (.long r1), .second, .val (.long d1), .second, .val (.long r2), .second, .val (.long d2), .second, .val (.int fl), .val (.long (own_vr r1)), .second, .val (.long (d1 &&& (9223372036854775807 : Int64))), .second, .val (.int (0 : Int32)), .val (.long (own_vr r2)), .second, .val (.long (d2 &&& (9223372036854775807 : Int64))), .second, .unset, .unset, .unset, .unset, .unset, .unset] [(.ref b5)])) _
      refine XS.astore X8.here hx rfl (hb hby at_73) rfl rfl (l' := #[.val (.long r1), .second, .val (.long d1), .second, .val (.long r2), .second, .val (.long d2), .second, .val (.int fl), .val (.long (own_vr r1)), .second, .val (.long (d1 &&& (9223372036854775807 : Int64))), .second, .val (.int (0 : Int32)), .val (.long (own_vr r2)), .second, .val (.long (d2 &&& (9223372036854775807 : Int64))), .second, .val (.ref b5), .unset, .unset, .unset, .unset, .unset]) rfl ?_
      show Steps p.tables e below (T8.setTop (mkF m 75 #[.val (.long r1), .second, .val (.long d1), .second, .val (.long r2), .second, .val (.long d2), .second, .val (.int fl), .val (.long (own_vr r1)), .second, .val (.long (d1 &&& (9223372036854775807 : Int64))), .second, .val (.int (0 : Int32)), .val (.long (own_vr r2)), .second, .val (.long (d2 &&& (9223372036854775807 : Int64))), .second, .val (.ref b5), .unset, .unset, .unset, .unset, .unset] [])) _
      refine st12 _ ?_
      show Steps p.tables e below (T12.setTop (mkF m 78 #[.val (.long r1), .second, .val (.long d1), .second, .val (.long r2), .second, .val (.long d2), .second, .val (.int fl), .val (.long (own_vr r1)), .second, .val (.long (d1 &&& (9223372036854775807 : Int64))), .second, .val (.int (0 : Int32)), .val (.long (own_vr r2)), .second, .val (.long (d2 &&& (9223372036854775807 : Int64))), .second, .val (.ref b5), .unset, .unset, .unset, .unset, .unset] [(.ref b12)])) _
      refine XS.dup X12.here hx rfl (hb hby at_78) rfl rfl ?_
      show Steps p.tables e below (T12.setTop (mkF m 79 #[.val (.long r1), .second, .val (.long d1), .second, .val (.long r2), .second, .val (.long d2), .second, .val (.int fl), .val (.long (own_vr r1)), .second, .val (.long (d1 &&& (9223372036854775807 : Int64))), .second, .val (.int (0 : Int32)), .val (.long (own_vr r2)), .second, .val (.long (d2 &&& (9223372036854775807 : Int64))), .second, .val (.ref b5), .unset, .unset, .unset, .unset, .unset] [(.ref b12), (.ref b12)])) _
      refine XS.lload X12.here hx rfl (hb hby at_79) rfl ?_
      show Steps p.tables e below (T12.setTop (mkF m 81 #[.val (.long r1), .second, .val (.long d1), .second, .val (.long r2), .second, .val (.long d2), .second, .val (.int fl), .val (.long (own_vr r1)), .second, .val (.long (d1 &&& (9223372036854775807 : Int64))), .second, .val (.int (0 : Int32)), .val (.long (own_vr r2)), .second, .val (.long (d2 &&& (9223372036854775807 : Int64))), .second, .val (.ref b5), .unset, .unset, .unset, .unset, .unset] [(.long (own_vr r2)), (.ref b12), (.ref b12)])) _
      refine XS.lload X12.here hx rfl (hb hby at_81) rfl ?_
      show Steps p.tables e below (T12.setTop (mkF m 83 #[.val (.long r1), .second, .val (.long d1), .second, .val (.long r2), .second, .val (.long d2), .second, .val (.int fl), .val (.long (own_vr r1)), .second, .val (.long (d1 &&& (9223372036854775807 : Int64))), .second, .val (.int (0 : Int32)), .val (.long (own_vr r2)), .second, .val (.long (d2 &&& (9223372036854775807 : Int64))), .second, .val (.ref b5), .unset, .unset, .unset, .unset, .unset] [(.long (d2 &&& (9223372036854775807 : Int64))), (.long (own_vr r2)), (.ref b12), (.ref b12)])) _
      refine st18.trans ?_
      show Steps p.tables e below (T18.setTop (mkF m 86 #[.val (.long r1), .second, .val (.long d1), .second, .val (.long r2), .second, .val (.long d2), .second, .val (.int fl), .val (.long (own_vr r1)), .second, .val (.long (d1 &&& (9223372036854775807 : Int64))), .second, .val (.int (0 : Int32)), .val (.long (own_vr r2)), .second, .val (.long (d2 &&& (9223372036854775807 : Int64))), .second, .val (.ref b5), .unset, .unset, .unset, .unset, .unset] [(.ref b12)])) _
      refine XS.astore X18.here hx rfl (hb hby at_86) rfl rfl (l' := #[.val (.long r1), .second, .val (.long d1), .second, .val (.long r2), .second, .val (.long d2), .second, .val (.int fl), .val (.long (own_vr r1)), .second, .val (.long (d1 &&& (9223372036854775807 : Int64))), .second, .val (.int (0 : Int32)), .val (.long (own_vr r2)), .second, .val (.long (d2 &&& (9223372036854775807 : Int64))), .second, .val (.ref b5), .val (.ref b12), .unset, .unset, .unset, .unset]) rfl ?_
      show Steps p.tables e below (T18.setTop (mkF m 88 #[.val (.long r1), .second, .val (.long d1), .second, .val (.long r2), .second, .val (.long d2), .second, .val (.int fl), .val (.long (own_vr r1)), .second, .val (.long (d1 &&& (9223372036854775807 : Int64))), .second, .val (.int (0 : Int32)), .val (.long (own_vr r2)), .second, .val (.long (d2 &&& (9223372036854775807 : Int64))), .second, .val (.ref b5), .val (.ref b12), .unset, .unset, .unset, .unset] [])) _
      refine XS.aload X18.here hx rfl (hb hby at_88) rfl rfl ?_
      show Steps p.tables e below (T18.setTop (mkF m 90 #[.val (.long r1), .second, .val (.long d1), .second, .val (.long r2), .second, .val (.long d2), .second, .val (.int fl), .val (.long (own_vr r1)), .second, .val (.long (d1 &&& (9223372036854775807 : Int64))), .second, .val (.int (0 : Int32)), .val (.long (own_vr r2)), .second, .val (.long (d2 &&& (9223372036854775807 : Int64))), .second, .val (.ref b5), .val (.ref b12), .unset, .unset, .unset, .unset] [(.ref b5)])) _
      refine st25.trans ?_
      show Steps p.tables e below (T25.setTop (mkF m 93 #[.val (.long r1), .second, .val (.long d1), .second, .val (.long r2), .second, .val (.long d2), .second, .val (.int fl), .val (.long (own_vr r1)), .second, .val (.long (d1 &&& (9223372036854775807 : Int64))), .second, .val (.int (0 : Int32)), .val (.long (own_vr r2)), .second, .val (.long (d2 &&& (9223372036854775807 : Int64))), .second, .val (.ref b5), .val (.ref b12), .unset, .unset, .unset, .unset] [(.int (own_ha (own_vr r1) (d1 &&& (9223372036854775807 : Int64))))])) _
      refine XS.istore X25.here hx rfl (hb hby at_93) rfl (l' := #[.val (.long r1), .second, .val (.long d1), .second, .val (.long r2), .second, .val (.long d2), .second, .val (.int fl), .val (.long (own_vr r1)), .second, .val (.long (d1 &&& (9223372036854775807 : Int64))), .second, .val (.int (0 : Int32)), .val (.long (own_vr r2)), .second, .val (.long (d2 &&& (9223372036854775807 : Int64))), .second, .val (.ref b5), .val (.ref b12), .val (.int (own_ha (own_vr r1) (d1 &&& (9223372036854775807 : Int64)))), .unset, .unset, .unset]) rfl ?_
      show Steps p.tables e below (T25.setTop (mkF m 95 #[.val (.long r1), .second, .val (.long d1), .second, .val (.long r2), .second, .val (.long d2), .second, .val (.int fl), .val (.long (own_vr r1)), .second, .val (.long (d1 &&& (9223372036854775807 : Int64))), .second, .val (.int (0 : Int32)), .val (.long (own_vr r2)), .second, .val (.long (d2 &&& (9223372036854775807 : Int64))), .second, .val (.ref b5), .val (.ref b12), .val (.int (own_ha (own_vr r1) (d1 &&& (9223372036854775807 : Int64)))), .unset, .unset, .unset] [])) _
      refine XS.aload X25.here hx rfl (hb hby at_95) rfl rfl ?_
      show Steps p.tables e below (T25.setTop (mkF m 97 #[.val (.long r1), .second, .val (.long d1), .second, .val (.long r2), .second, .val (.long d2), .second, .val (.int fl), .val (.long (own_vr r1)), .second, .val (.long (d1 &&& (9223372036854775807 : Int64))), .second, .val (.int (0 : Int32)), .val (.long (own_vr r2)), .second, .val (.long (d2 &&& (9223372036854775807 : Int64))), .second, .val (.ref b5), .val (.ref b12), .val (.int (own_ha (own_vr r1) (d1 &&& (9223372036854775807 : Int64)))), .unset, .unset, .unset] [(.ref b12)])) _
      refine st26.trans ?_
      show Steps p.tables e below (T26.setTop (mkF m 100 #[.val (.long r1), .second, .val (.long d1), .second, .val (.long r2), .second, .val (.long d2), .second, .val (.int fl), .val (.long (own_vr r1)), .second, .val (.long (d1 &&& (9223372036854775807 : Int64))), .second, .val (.int (0 : Int32)), .val (.long (own_vr r2)), .second, .val (.long (d2 &&& (9223372036854775807 : Int64))), .second, .val (.ref b5), .val (.ref b12), .val (.int (own_ha (own_vr r1) (d1 &&& (9223372036854775807 : Int64)))), .unset, .unset, .unset] [(.int (own_ha (own_vr r2) (d2 &&& (9223372036854775807 : Int64))))])) _
      refine XS.istore X26.here hx rfl (hb hby at_100) rfl (l' := #[.val (.long r1), .second, .val (.long d1), .second, .val (.long r2), .second, .val (.long d2), .second, .val (.int fl), .val (.long (own_vr r1)), .second, .val (.long (d1 &&& (9223372036854775807 : Int64))), .second, .val (.int (0 : Int32)), .val (.long (own_vr r2)), .second, .val (.long (d2 &&& (9223372036854775807 : Int64))), .second, .val (.ref b5), .val (.ref b12), .val (.int (own_ha (own_vr r1) (d1 &&& (9223372036854775807 : Int64)))), .val (.int (own_ha (own_vr r2) (d2 &&& (9223372036854775807 : Int64)))), .unset, .unset]) rfl ?_
      show Steps p.tables e below (T26.setTop (mkF m 102 #[.val (.long r1), .second, .val (.long d1), .second, .val (.long r2), .second, .val (.long d2), .second, .val (.int fl), .val (.long (own_vr r1)), .second, .val (.long (d1 &&& (9223372036854775807 : Int64))), .second, .val (.int (0 : Int32)), .val (.long (own_vr r2)), .second, .val (.long (d2 &&& (9223372036854775807 : Int64))), .second, .val (.ref b5), .val (.ref b12), .val (.int (own_ha (own_vr r1) (d1 &&& (9223372036854775807 : Int64)))), .val (.int (own_ha (own_vr r2) (d2 &&& (9223372036854775807 : Int64)))), .unset, .unset] [])) _
      refine XS.lload X26.here hx rfl (hb hby at_102) rfl ?_
      show Steps p.tables e below (T26.setTop (mkF m 104 #[.val (.long r1), .second, .val (.long d1), .second, .val (.long r2), .second, .val (.long d2), .second, .val (.int fl), .val (.long (own_vr r1)), .second, .val (.long (d1 &&& (9223372036854775807 : Int64))), .second, .val (.int (0 : Int32)), .val (.long (own_vr r2)), .second, .val (.long (d2 &&& (9223372036854775807 : Int64))), .second, .val (.ref b5), .val (.ref b12), .val (.int (own_ha (own_vr r1) (d1 &&& (9223372036854775807 : Int64)))), .val (.int (own_ha (own_vr r2) (d2 &&& (9223372036854775807 : Int64)))), .unset, .unset] [(.long (own_vr r1))])) _
      refine st27 _ ?_
      show Steps p.tables e below (T27.setTop (mkF m 107 #[.val (.long r1), .second, .val (.long d1), .second, .val (.long r2), .second, .val (.long d2), .second, .val (.int fl), .val (.long (own_vr r1)), .second, .val (.long (d1 &&& (9223372036854775807 : Int64))), .second, .val (.int (0 : Int32)), .val (.long (own_vr r2)), .second, .val (.long (d2 &&& (9223372036854775807 : Int64))), .second, .val (.ref b5), .val (.ref b12), .val (.int (own_ha (own_vr r1) (d1 &&& (9223372036854775807 : Int64)))), .val (.int (own_ha (own_vr r2) (d2 &&& (9223372036854775807 : Int64)))), .unset, .unset] [(.int (own_fo (own_vr r1)))])) _
      refine XS.bipush X27.here hx rfl (hb hby at_107) ?_
      show Steps p.tables e below (T27.setTop (mkF m 109 #[.val (.long r1), .second, .val (.long d1), .second, .val (.long r2), .second, .val (.long d2), .second, .val (.int fl), .val (.long (own_vr r1)), .second, .val (.long (d1 &&& (9223372036854775807 : Int64))), .second, .val (.int (0 : Int32)), .val (.long (own_vr r2)), .second, .val (.long (d2 &&& (9223372036854775807 : Int64))), .second, .val (.ref b5), .val (.ref b12), .val (.int (own_ha (own_vr r1) (d1 &&& (9223372036854775807 : Int64)))), .val (.int (own_ha (own_vr r2) (d2 &&& (9223372036854775807 : Int64)))), .unset, .unset] [(.int (31 : Int32)), (.int (own_fo (own_vr r1)))])) _
      refine XS.imul X27.here hx rfl (hb hby at_109) rfl ?_
      show Steps p.tables e below (T27.setTop (mkF m 110 #[.val (.long r1), .second, .val (.long d1), .second, .val (.long r2), .second, .val (.long d2), .second, .val (.int fl), .val (.long (own_vr r1)), .second, .val (.long (d1 &&& (9223372036854775807 : Int64))), .second, .val (.int (0 : Int32)), .val (.long (own_vr r2)), .second, .val (.long (d2 &&& (9223372036854775807 : Int64))), .second, .val (.ref b5), .val (.ref b12), .val (.int (own_ha (own_vr r1) (d1 &&& (9223372036854775807 : Int64)))), .val (.int (own_ha (own_vr r2) (d2 &&& (9223372036854775807 : Int64)))), .unset, .unset] [(.int ((own_fo (own_vr r1)) * (31 : Int32)))])) _
      refine XS.lload X27.here hx rfl (hb hby at_110) rfl ?_
      show Steps p.tables e below (T27.setTop (mkF m 112 #[.val (.long r1), .second, .val (.long d1), .second, .val (.long r2), .second, .val (.long d2), .second, .val (.int fl), .val (.long (own_vr r1)), .second, .val (.long (d1 &&& (9223372036854775807 : Int64))), .second, .val (.int (0 : Int32)), .val (.long (own_vr r2)), .second, .val (.long (d2 &&& (9223372036854775807 : Int64))), .second, .val (.ref b5), .val (.ref b12), .val (.int (own_ha (own_vr r1) (d1 &&& (9223372036854775807 : Int64)))), .val (.int (own_ha (own_vr r2) (d2 &&& (9223372036854775807 : Int64)))), .unset, .unset] [(.long (d1 &&& (9223372036854775807 : Int64))), (.int ((own_fo (own_vr r1)) * (31 : Int32)))])) _
      refine st28 _ ?_
      show Steps p.tables e below (T28.setTop (mkF m 115 #[.val (.long r1), .second, .val (.long d1), .second, .val (.long r2), .second, .val (.long d2), .second, .val (.int fl), .val (.long (own_vr r1)), .second, .val (.long (d1 &&& (9223372036854775807 : Int64))), .second, .val (.int (0 : Int32)), .val (.long (own_vr r2)), .second, .val (.long (d2 &&& (9223372036854775807 : Int64))), .second, .val (.ref b5), .val (.ref b12), .val (.int (own_ha (own_vr r1) (d1 &&& (9223372036854775807 : Int64)))), .val (.int (own_ha (own_vr r2) (d2 &&& (9223372036854775807 : Int64)))), .unset, .unset] [(.int (own_fo (d1 &&& (9223372036854775807 : Int64)))), (.int ((own_fo (own_vr r1)) * (31 : Int32)))])) _
      refine XS.iadd X28.here hx rfl (hb hby at_115) rfl ?_
      show Steps p.tables e below (T28.setTop (mkF m 116 #[.val (.long r1), .second, .val (.long d1), .second, .val (.long r2), .second, .val (.long d2), .second, .val (.int fl), .val (.long (own_vr r1)), .second, .val (.long (d1 &&& (9223372036854775807 : Int64))), .second, .val (.int (0 : Int32)), .val (.long (own_vr r2)), .second, .val (.long (d2 &&& (9223372036854775807 : Int64))), .second, .val (.ref b5), .val (.ref b12), .val (.int (own_ha (own_vr r1) (d1 &&& (9223372036854775807 : Int64)))), .val (.int (own_ha (own_vr r2) (d2 &&& (9223372036854775807 : Int64)))), .unset, .unset] [(.int (((own_fo (own_vr r1)) * (31 : Int32)) + (own_fo (d1 &&& (9223372036854775807 : Int64)))))])) _
      refine XS.istore X28.here hx rfl (hb hby at_116) rfl (l' := #[.val (.long r1), .second, .val (.long d1), .second, .val (.long r2), .second, .val (.long d2), .second, .val (.int fl), .val (.long (own_vr r1)), .second, .val (.long (d1 &&& (9223372036854775807 : Int64))), .second, .val (.int (0 : Int32)), .val (.long (own_vr r2)), .second, .val (.long (d2 &&& (9223372036854775807 : Int64))), .second, .val (.ref b5), .val (.ref b12), .val (.int (own_ha (own_vr r1) (d1 &&& (9223372036854775807 : Int64)))), .val (.int (own_ha (own_vr r2) (d2 &&& (9223372036854775807 : Int64)))), .val (.int (((own_fo (own_vr r1)) * (31 : Int32)) + (own_fo (d1 &&& (9223372036854775807 : Int64))))), .unset]) rfl ?_
      show Steps p.tables e below (T28.setTop (mkF m 118 #[.val (.long r1), .second, .val (.long d1), .second, .val (.long r2), .second, .val (.long d2), .second, .val (.int fl), .val (.long (own_vr r1)), .second, .val (.long (d1 &&& (9223372036854775807 : Int64))), .second, .val (.int (0 : Int32)), .val (.long (own_vr r2)), .second, .val (.long (d2 &&& (9223372036854775807 : Int64))), .second, .val (.ref b5), .val (.ref b12), .val (.int (own_ha (own_vr r1) (d1 &&& (9223372036854775807 : Int64)))), .val (.int (own_ha (own_vr r2) (d2 &&& (9223372036854775807 : Int64)))), .val (.int (((own_fo (own_vr r1)) * (31 : Int32)) + (own_fo (d1 &&& (9223372036854775807 : Int64))))), .unset] [])) _
      refine XS.lload X28.here hx rfl (hb hby at_118) rfl ?_
      show Steps p.tables e below (T28.setTop (mkF m 120 #[.val (.long r1), .second, .val (.long d1), .second, .val (.long r2), .second, .val (.long d2), .second, .val (.int fl), .val (.long (own_vr r1)), .second, .val (.long (d1 &&& (9223372036854775807 : Int64))), .second, .val (.int (0 : Int32)), .val (.long (own_vr r2)), .second, .val (.long (d2 &&& (9223372036854775807 : Int64))), .second, .val (.ref b5), .val (.ref b12), .val (.int (own_ha (own_vr r1) (d1 &&& (9223372036854775807 : Int64)))), .val (.int (own_ha (own_vr r2) (d2 &&& (9223372036854775807 : Int64)))), .val (.int (((own_fo (own_vr r1)) * (31 : Int32)) + (own_fo (d1 &&& (9223372036854775807 : Int64))))), .unset] [(.long (own_vr r2))])) _
      refine st29 _ ?_
      show Steps p.tables e below (T29.setTop (mkF m 123 #[.val (.long r1), .second, .val (.long d1), .second, .val (.long r2), .second, .val (.long d2), .second, .val (.int fl), .val (.long (own_vr r1)), .second, .val (.long (d1 &&& (9223372036854775807 : Int64))), .second, .val (.int (0 : Int32)), .val (.long (own_vr r2)), .second, .val (.long (d2 &&& (9223372036854775807 : Int64))), .second, .val (.ref b5), .val (.ref b12), .val (.int (own_ha (own_vr r1) (d1 &&& (9223372036854775807 : Int64)))), .val (.int (own_ha (own_vr r2) (d2 &&& (9223372036854775807 : Int64)))), .val (.int (((own_fo (own_vr r1)) * (31 : Int32)) + (own_fo (d1 &&& (9223372036854775807 : Int64))))), .unset] [(.int (own_fo (own_vr r2)))])) _
      refine XS.bipush X29.here hx rfl (hb hby at_123) ?_
      show Steps p.tables e below (T29.setTop (mkF m 125 #[.val (.long r1), .second, .val (.long d1), .second, .val (.long r2), .second, .val (.long d2), .second, .val (.int fl), .val (.long (own_vr r1)), .second, .val (.long (d1 &&& (9223372036854775807 : Int64))), .second, .val (.int (0 : Int32)), .val (.long (own_vr r2)), .second, .val (.long (d2 &&& (9223372036854775807 : Int64))), .second, .val (.ref b5), .val (.ref b12), .val (.int (own_ha (own_vr r1) (d1 &&& (9223372036854775807 : Int64)))), .val (.int (own_ha (own_vr r2) (d2 &&& (9223372036854775807 : Int64)))), .val (.int (((own_fo (own_vr r1)) * (31 : Int32)) + (own_fo (d1 &&& (9223372036854775807 : Int64))))), .unset] [(.int (31 : Int32)), (.int (own_fo (own_vr r2)))])) _
      refine XS.imul X29.here hx rfl (hb hby at_125) rfl ?_
      show Steps p.tables e below (T29.setTop (mkF m 126 #[.val (.long r1), .second, .val (.long d1), .second, .val (.long r2), .second, .val (.long d2), .second, .val (.int fl), .val (.long (own_vr r1)), .second, .val (.long (d1 &&& (9223372036854775807 : Int64))), .second, .val (.int (0 : Int32)), .val (.long (own_vr r2)), .second, .val (.long (d2 &&& (9223372036854775807 : Int64))), .second, .val (.ref b5), .val (.ref b12), .val (.int (own_ha (own_vr r1) (d1 &&& (9223372036854775807 : Int64)))), .val (.int (own_ha (own_vr r2) (d2 &&& (9223372036854775807 : Int64)))), .val (.int (((own_fo (own_vr r1)) * (31 : Int32)) + (own_fo (d1 &&& (9223372036854775807 : Int64))))), .unset] [(.int ((own_fo (own_vr r2)) * (31 : Int32)))])) _
      refine XS.lload X29.here hx rfl (hb hby at_126) rfl ?_
      show Steps p.tables e below (T29.setTop (mkF m 128 #[.val (.long r1), .second, .val (.long d1), .second, .val (.long r2), .second, .val (.long d2), .second, .val (.int fl), .val (.long (own_vr r1)), .second, .val (.long (d1 &&& (9223372036854775807 : Int64))), .second, .val (.int (0 : Int32)), .val (.long (own_vr r2)), .second, .val (.long (d2 &&& (9223372036854775807 : Int64))), .second, .val (.ref b5), .val (.ref b12), .val (.int (own_ha (own_vr r1) (d1 &&& (9223372036854775807 : Int64)))), .val (.int (own_ha (own_vr r2) (d2 &&& (9223372036854775807 : Int64)))), .val (.int (((own_fo (own_vr r1)) * (31 : Int32)) + (own_fo (d1 &&& (9223372036854775807 : Int64))))), .unset] [(.long (d2 &&& (9223372036854775807 : Int64))), (.int ((own_fo (own_vr r2)) * (31 : Int32)))])) _
      refine st30 _ ?_
      show Steps p.tables e below (T30.setTop (mkF m 131 #[.val (.long r1), .second, .val (.long d1), .second, .val (.long r2), .second, .val (.long d2), .second, .val (.int fl), .val (.long (own_vr r1)), .second, .val (.long (d1 &&& (9223372036854775807 : Int64))), .second, .val (.int (0 : Int32)), .val (.long (own_vr r2)), .second, .val (.long (d2 &&& (9223372036854775807 : Int64))), .second, .val (.ref b5), .val (.ref b12), .val (.int (own_ha (own_vr r1) (d1 &&& (9223372036854775807 : Int64)))), .val (.int (own_ha (own_vr r2) (d2 &&& (9223372036854775807 : Int64)))), .val (.int (((own_fo (own_vr r1)) * (31 : Int32)) + (own_fo (d1 &&& (9223372036854775807 : Int64))))), .unset] [(.int (own_fo (d2 &&& (9223372036854775807 : Int64)))), (.int ((own_fo (own_vr r2)) * (31 : Int32)))])) _
      refine XS.iadd X30.here hx rfl (hb hby at_131) rfl ?_
      show Steps p.tables e below (T30.setTop (mkF m 132 #[.val (.long r1), .second, .val (.long d1), .second, .val (.long r2), .second, .val (.long d2), .second, .val (.int fl), .val (.long (own_vr r1)), .second, .val (.long (d1 &&& (9223372036854775807 : Int64))), .second, .val (.int (0 : Int32)), .val (.long (own_vr r2)), .second, .val (.long (d2 &&& (9223372036854775807 : Int64))), .second, .val (.ref b5), .val (.ref b12), .val (.int (own_ha (own_vr r1) (d1 &&& (9223372036854775807 : Int64)))), .val (.int (own_ha (own_vr r2) (d2 &&& (9223372036854775807 : Int64)))), .val (.int (((own_fo (own_vr r1)) * (31 : Int32)) + (own_fo (d1 &&& (9223372036854775807 : Int64))))), .unset] [(.int (((own_fo (own_vr r2)) * (31 : Int32)) + (own_fo (d2 &&& (9223372036854775807 : Int64)))))])) _
      refine XS.istore X30.here hx rfl (hb hby at_132) rfl (l' := #[.val (.long r1), .second, .val (.long d1), .second, .val (.long r2), .second, .val (.long d2), .second, .val (.int fl), .val (.long (own_vr r1)), .second, .val (.long (d1 &&& (9223372036854775807 : Int64))), .second, .val (.int (0 : Int32)), .val (.long (own_vr r2)), .second, .val (.long (d2 &&& (9223372036854775807 : Int64))), .second, .val (.ref b5), .val (.ref b12), .val (.int (own_ha (own_vr r1) (d1 &&& (9223372036854775807 : Int64)))), .val (.int (own_ha (own_vr r2) (d2 &&& (9223372036854775807 : Int64)))), .val (.int (((own_fo (own_vr r1)) * (31 : Int32)) + (own_fo (d1 &&& (9223372036854775807 : Int64))))), .val (.int (((own_fo (own_vr r2)) * (31 : Int32)) + (own_fo (d2 &&& (9223372036854775807 : Int64)))))]) rfl ?_
      show Steps p.tables e below (T30.setTop (mkF m 134 #[.val (.long r1), .second, .val (.long d1), .second, .val (.long r2), .second, .val (.long d2), .second, .val (.int fl), .val (.long (own_vr r1)), .second, .val (.long (d1 &&& (9223372036854775807 : Int64))), .second, .val (.int (0 : Int32)), .val (.long (own_vr r2)), .second, .val (.long (d2 &&& (9223372036854775807 : Int64))), .second, .val (.ref b5), .val (.ref b12), .val (.int (own_ha (own_vr r1) (d1 &&& (9223372036854775807 : Int64)))), .val (.int (own_ha (own_vr r2) (d2 &&& (9223372036854775807 : Int64)))), .val (.int (((own_fo (own_vr r1)) * (31 : Int32)) + (own_fo (d1 &&& (9223372036854775807 : Int64))))), .val (.int (((own_fo (own_vr r2)) * (31 : Int32)) + (own_fo (d2 &&& (9223372036854775807 : Int64)))))] [])) _
      refine XS.iload X30.here hx rfl (hb hby at_134) rfl ?_
      show Steps p.tables e below (T30.setTop (mkF m 136 #[.val (.long r1), .second, .val (.long d1), .second, .val (.long r2), .second, .val (.long d2), .second, .val (.int fl), .val (.long (own_vr r1)), .second, .val (.long (d1 &&& (9223372036854775807 : Int64))), .second, .val (.int (0 : Int32)), .val (.long (own_vr r2)), .second, .val (.long (d2 &&& (9223372036854775807 : Int64))), .second, .val (.ref b5), .val (.ref b12), .val (.int (own_ha (own_vr r1) (d1 &&& (9223372036854775807 : Int64)))), .val (.int (own_ha (own_vr r2) (d2 &&& (9223372036854775807 : Int64)))), .val (.int (((own_fo (own_vr r1)) * (31 : Int32)) + (own_fo (d1 &&& (9223372036854775807 : Int64))))), .val (.int (((own_fo (own_vr r2)) * (31 : Int32)) + (own_fo (d2 &&& (9223372036854775807 : Int64)))))] [(.int (own_ha (own_vr r1) (d1 &&& (9223372036854775807 : Int64))))])) _
      refine XS.iload X30.here hx rfl (hb hby at_136) rfl ?_
      show Steps p.tables e below (T30.setTop (mkF m 138 #[.val (.long r1), .second, .val (.long d1), .second, .val (.long r2), .second, .val (.long d2), .second, .val (.int fl), .val (.long (own_vr r1)), .second, .val (.long (d1 &&& (9223372036854775807 : Int64))), .second, .val (.int (0 : Int32)), .val (.long (own_vr r2)), .second, .val (.long (d2 &&& (9223372036854775807 : Int64))), .second, .val (.ref b5), .val (.ref b12), .val (.int (own_ha (own_vr r1) (d1 &&& (9223372036854775807 : Int64)))), .val (.int (own_ha (own_vr r2) (d2 &&& (9223372036854775807 : Int64)))), .val (.int (((own_fo (own_vr r1)) * (31 : Int32)) + (own_fo (d1 &&& (9223372036854775807 : Int64))))), .val (.int (((own_fo (own_vr r2)) * (31 : Int32)) + (own_fo (d2 &&& (9223372036854775807 : Int64)))))] [(.int (((own_fo (own_vr r1)) * (31 : Int32)) + (own_fo (d1 &&& (9223372036854775807 : Int64))))), (.int (own_ha (own_vr r1) (d1 &&& (9223372036854775807 : Int64))))])) _
      refine XS.icmpNo X30.here hx rfl (hb hby at_138) rfl (teq (own_ha_hf (own_vr r1) (d1 &&& (9223372036854775807 : Int64)))).2 ?_
      show Steps p.tables e below (T30.setTop (mkF m 141 #[.val (.long r1), .second, .val (.long d1), .second, .val (.long r2), .second, .val (.long d2), .second, .val (.int fl), .val (.long (own_vr r1)), .second, .val (.long (d1 &&& (9223372036854775807 : Int64))), .second, .val (.int (0 : Int32)), .val (.long (own_vr r2)), .second, .val (.long (d2 &&& (9223372036854775807 : Int64))), .second, .val (.ref b5), .val (.ref b12), .val (.int (own_ha (own_vr r1) (d1 &&& (9223372036854775807 : Int64)))), .val (.int (own_ha (own_vr r2) (d2 &&& (9223372036854775807 : Int64)))), .val (.int (((own_fo (own_vr r1)) * (31 : Int32)) + (own_fo (d1 &&& (9223372036854775807 : Int64))))), .val (.int (((own_fo (own_vr r2)) * (31 : Int32)) + (own_fo (d2 &&& (9223372036854775807 : Int64)))))] [])) _
      refine XS.iload X30.here hx rfl (hb hby at_141) rfl ?_
      show Steps p.tables e below (T30.setTop (mkF m 143 #[.val (.long r1), .second, .val (.long d1), .second, .val (.long r2), .second, .val (.long d2), .second, .val (.int fl), .val (.long (own_vr r1)), .second, .val (.long (d1 &&& (9223372036854775807 : Int64))), .second, .val (.int (0 : Int32)), .val (.long (own_vr r2)), .second, .val (.long (d2 &&& (9223372036854775807 : Int64))), .second, .val (.ref b5), .val (.ref b12), .val (.int (own_ha (own_vr r1) (d1 &&& (9223372036854775807 : Int64)))), .val (.int (own_ha (own_vr r2) (d2 &&& (9223372036854775807 : Int64)))), .val (.int (((own_fo (own_vr r1)) * (31 : Int32)) + (own_fo (d1 &&& (9223372036854775807 : Int64))))), .val (.int (((own_fo (own_vr r2)) * (31 : Int32)) + (own_fo (d2 &&& (9223372036854775807 : Int64)))))] [(.int (own_ha (own_vr r2) (d2 &&& (9223372036854775807 : Int64))))])) _
      refine XS.iload X30.here hx rfl (hb hby at_143) rfl ?_
      show Steps p.tables e below (T30.setTop (mkF m 145 #[.val (.long r1), .second, .val (.long d1), .second, .val (.long r2), .second, .val (.long d2), .second, .val (.int fl), .val (.long (own_vr r1)), .second, .val (.long (d1 &&& (9223372036854775807 : Int64))), .second, .val (.int (0 : Int32)), .val (.long (own_vr r2)), .second, .val (.long (d2 &&& (9223372036854775807 : Int64))), .second, .val (.ref b5), .val (.ref b12), .val (.int (own_ha (own_vr r1) (d1 &&& (9223372036854775807 : Int64)))), .val (.int (own_ha (own_vr r2) (d2 &&& (9223372036854775807 : Int64)))), .val (.int (((own_fo (own_vr r1)) * (31 : Int32)) + (own_fo (d1 &&& (9223372036854775807 : Int64))))), .val (.int (((own_fo (own_vr r2)) * (31 : Int32)) + (own_fo (d2 &&& (9223372036854775807 : Int64)))))] [(.int (((own_fo (own_vr r2)) * (31 : Int32)) + (own_fo (d2 &&& (9223372036854775807 : Int64))))), (.int (own_ha (own_vr r2) (d2 &&& (9223372036854775807 : Int64))))])) _
      refine XS.icmpYes X30.here hx rfl (pc0 := 145) (pc' := 150) rfl (hb hby at_145) rfl (teq (own_ha_hf (own_vr r2) (d2 &&& (9223372036854775807 : Int64)))).1 (by decide) (by decide) ?_
      show Steps p.tables e below (T30.setTop (mkF m 150 #[.val (.long r1), .second, .val (.long d1), .second, .val (.long r2), .second, .val (.long d2), .second, .val (.int fl), .val (.long (own_vr r1)), .second, .val (.long (d1 &&& (9223372036854775807 : Int64))), .second, .val (.int (0 : Int32)), .val (.long (own_vr r2)), .second, .val (.long (d2 &&& (9223372036854775807 : Int64))), .second, .val (.ref b5), .val (.ref b12), .val (.int (own_ha (own_vr r1) (d1 &&& (9223372036854775807 : Int64)))), .val (.int (own_ha (own_vr r2) (d2 &&& (9223372036854775807 : Int64)))), .val (.int (((own_fo (own_vr r1)) * (31 : Int32)) + (own_fo (d1 &&& (9223372036854775807 : Int64))))), .val (.int (((own_fo (own_vr r2)) * (31 : Int32)) + (own_fo (d2 &&& (9223372036854775807 : Int64)))))] [])) _
      refine XS.aload X30.here hx rfl (hb hby at_150) rfl rfl ?_
      show Steps p.tables e below (T30.setTop (mkF m 152 #[.val (.long r1), .second, .val (.long d1), .second, .val (.long r2), .second, .val (.long d2), .second, .val (.int fl), .val (.long (own_vr r1)), .second, .val (.long (d1 &&& (9223372036854775807 : Int64))), .second, .val (.int (0 : Int32)), .val (.long (own_vr r2)), .second, .val (.long (d2 &&& (9223372036854775807 : Int64))), .second, .val (.ref b5), .val (.ref b12), .val (.int (own_ha (own_vr r1) (d1 &&& (9223372036854775807 : Int64)))), .val (.int (own_ha (own_vr r2) (d2 &&& (9223372036854775807 : Int64)))), .val (.int (((own_fo (own_vr r1)) * (31 : Int32)) + (own_fo (d1 &&& (9223372036854775807 : Int64))))), .val (.int (((own_fo (own_vr r2)) * (31 : Int32)) + (own_fo (d2 &&& (9223372036854775807 : Int64)))))] [(.ref b5)])) _
      refine XS.aload X30.here hx rfl (hb hby at_152) rfl rfl ?_
      show Steps p.tables e below (T30.setTop (mkF m 154 #[.val (.long r1), .second, .val (.long d1), .second, .val (.long r2), .second, .val (.long d2), .second, .val (.int fl), .val (.long (own_vr r1)), .second, .val (.long (d1 &&& (9223372036854775807 : Int64))), .second, .val (.int (0 : Int32)), .val (.long (own_vr r2)), .second, .val (.long (d2 &&& (9223372036854775807 : Int64))), .second, .val (.ref b5), .val (.ref b12), .val (.int (own_ha (own_vr r1) (d1 &&& (9223372036854775807 : Int64)))), .val (.int (own_ha (own_vr r2) (d2 &&& (9223372036854775807 : Int64)))), .val (.int (((own_fo (own_vr r1)) * (31 : Int32)) + (own_fo (d1 &&& (9223372036854775807 : Int64))))), .val (.int (((own_fo (own_vr r2)) * (31 : Int32)) + (own_fo (d2 &&& (9223372036854775807 : Int64)))))] [(.ref b12), (.ref b5)])) _
      refine st31.trans ?_
      exact kt
    by_cases hc33 : (own_eq (own_vr r1) (d1 &&& (9223372036854775807 : Int64)) (own_vr r2) (d2 &&& (9223372036854775807 : Int64))) = (0 : Int32)
    · obtain ⟨fs, hr, hrun, hended, hW, hsame⟩ := X31.leave (v := some (.int (1 : Int32))) (fun h => by rw [Bd.returns] at h; cases h)
      refine ⟨_, _, k32 _ ?_, hrun, hended, _, _, rfl, ?_, ⟨_, rfl⟩, hW, hsame.mono (by decide) (by decide)⟩
      · show Steps p.tables e below (T31.setTop (mkF m 157 #[.val (.long r1), .second, .val (.long d1), .second, .val (.long r2), .second, .val (.long d2), .second, .val (.int fl), .val (.long (own_vr r1)), .second, .val (.long (d1 &&& (9223372036854775807 : Int64))), .second, .val (.int (0 : Int32)), .val (.long (own_vr r2)), .second, .val (.long (d2 &&& (9223372036854775807 : Int64))), .second, .val (.ref b5), .val (.ref b12), .val (.int (own_ha (own_vr r1) (d1 &&& (9223372036854775807 : Int64)))), .val (.int (own_ha (own_vr r2) (d2 &&& (9223372036854775807 : Int64)))), .val (.int (((own_fo (own_vr r1)) * (31 : Int32)) + (own_fo (d1 &&& (9223372036854775807 : Int64))))), .val (.int (((own_fo (own_vr r2)) * (31 : Int32)) + (own_fo (d2 &&& (9223372036854775807 : Int64)))))] [(.int (own_eq (own_vr r1) (d1 &&& (9223372036854775807 : Int64)) (own_vr r2) (d2 &&& (9223372036854775807 : Int64))))])) _
        refine XS.ifYes X31.here hx rfl (pc0 := 157) (pc' := 169) rfl (hb hby at_157) rfl ((if0 _ _).trans (teq hc33).1) (by decide) (by decide) ?_
        show Steps p.tables e below (T31.setTop (mkF m 169 #[.val (.long r1), .second, .val (.long d1), .second, .val (.long r2), .second, .val (.long d2), .second, .val (.int fl), .val (.long (own_vr r1)), .second, .val (.long (d1 &&& (9223372036854775807 : Int64))), .second, .val (.int (0 : Int32)), .val (.long (own_vr r2)), .second, .val (.long (d2 &&& (9223372036854775807 : Int64))), .second, .val (.ref b5), .val (.ref b12), .val (.int (own_ha (own_vr r1) (d1 &&& (9223372036854775807 : Int64)))), .val (.int (own_ha (own_vr r2) (d2 &&& (9223372036854775807 : Int64)))), .val (.int (((own_fo (own_vr r1)) * (31 : Int32)) + (own_fo (d1 &&& (9223372036854775807 : Int64))))), .val (.int (((own_fo (own_vr r2)) * (31 : Int32)) + (own_fo (d2 &&& (9223372036854775807 : Int64)))))] [])) _
        refine XS.iconst X31.here hx rfl (hb hby at_169) ?_
        show Steps p.tables e below (T31.setTop (mkF m 170 #[.val (.long r1), .second, .val (.long d1), .second, .val (.long r2), .second, .val (.long d2), .second, .val (.int fl), .val (.long (own_vr r1)), .second, .val (.long (d1 &&& (9223372036854775807 : Int64))), .second, .val (.int (0 : Int32)), .val (.long (own_vr r2)), .second, .val (.long (d2 &&& (9223372036854775807 : Int64))), .second, .val (.ref b5), .val (.ref b12), .val (.int (own_ha (own_vr r1) (d1 &&& (9223372036854775807 : Int64)))), .val (.int (own_ha (own_vr r2) (d2 &&& (9223372036854775807 : Int64)))), .val (.int (((own_fo (own_vr r1)) * (31 : Int32)) + (own_fo (d1 &&& (9223372036854775807 : Int64))))), .val (.int (((own_fo (own_vr r2)) * (31 : Int32)) + (own_fo (d2 &&& (9223372036854775807 : Int64)))))] [(.int (1 : Int32))])) _
        exact retN X31 hx (t := .boolean) Bd.returns (by simp) (hb hby at_170) hr
      · show own_Q0 Z r1 d1 r2 d2 fl h0 n0 _ T31.heap _
        rw [e31]
        exact ⟨rfl, N31⟩
    · have he : own_ha (own_vr r1) (d1 &&& (9223372036854775807 : Int64)) = own_ha (own_vr r2) (d2 &&& (9223372036854775807 : Int64)) := by
        rw [own_eq_iff] at hc33
        by_cases q : (own_vr r2) = (own_vr r1) ∧ (d2 &&& (9223372036854775807 : Int64)) = (d1 &&& (9223372036854775807 : Int64))
        · rw [q.1, q.2]
        · exact absurd (if_neg q) hc33
      obtain ⟨fs, hr, hrun, hended, hW, hsame⟩ := X31.leave (v := some (.int (1 : Int32))) (fun h => by rw [Bd.returns] at h; cases h)
      refine ⟨_, _, k32 _ ?_, hrun, hended, _, _, rfl, ?_, ⟨_, rfl⟩, hW, hsame.mono (by decide) (by decide)⟩
      · show Steps p.tables e below (T31.setTop (mkF m 157 #[.val (.long r1), .second, .val (.long d1), .second, .val (.long r2), .second, .val (.long d2), .second, .val (.int fl), .val (.long (own_vr r1)), .second, .val (.long (d1 &&& (9223372036854775807 : Int64))), .second, .val (.int (0 : Int32)), .val (.long (own_vr r2)), .second, .val (.long (d2 &&& (9223372036854775807 : Int64))), .second, .val (.ref b5), .val (.ref b12), .val (.int (own_ha (own_vr r1) (d1 &&& (9223372036854775807 : Int64)))), .val (.int (own_ha (own_vr r2) (d2 &&& (9223372036854775807 : Int64)))), .val (.int (((own_fo (own_vr r1)) * (31 : Int32)) + (own_fo (d1 &&& (9223372036854775807 : Int64))))), .val (.int (((own_fo (own_vr r2)) * (31 : Int32)) + (own_fo (d2 &&& (9223372036854775807 : Int64)))))] [(.int (own_eq (own_vr r1) (d1 &&& (9223372036854775807 : Int64)) (own_vr r2) (d2 &&& (9223372036854775807 : Int64))))])) _
        refine XS.ifNo X31.here hx rfl (hb hby at_157) rfl ((if0 _ _).trans (feq hc33).1) ?_
        show Steps p.tables e below (T31.setTop (mkF m 160 #[.val (.long r1), .second, .val (.long d1), .second, .val (.long r2), .second, .val (.long d2), .second, .val (.int fl), .val (.long (own_vr r1)), .second, .val (.long (d1 &&& (9223372036854775807 : Int64))), .second, .val (.int (0 : Int32)), .val (.long (own_vr r2)), .second, .val (.long (d2 &&& (9223372036854775807 : Int64))), .second, .val (.ref b5), .val (.ref b12), .val (.int (own_ha (own_vr r1) (d1 &&& (9223372036854775807 : Int64)))), .val (.int (own_ha (own_vr r2) (d2 &&& (9223372036854775807 : Int64)))), .val (.int (((own_fo (own_vr r1)) * (31 : Int32)) + (own_fo (d1 &&& (9223372036854775807 : Int64))))), .val (.int (((own_fo (own_vr r2)) * (31 : Int32)) + (own_fo (d2 &&& (9223372036854775807 : Int64)))))] [])) _
        refine XS.iload X31.here hx rfl (hb hby at_160) rfl ?_
        show Steps p.tables e below (T31.setTop (mkF m 162 #[.val (.long r1), .second, .val (.long d1), .second, .val (.long r2), .second, .val (.long d2), .second, .val (.int fl), .val (.long (own_vr r1)), .second, .val (.long (d1 &&& (9223372036854775807 : Int64))), .second, .val (.int (0 : Int32)), .val (.long (own_vr r2)), .second, .val (.long (d2 &&& (9223372036854775807 : Int64))), .second, .val (.ref b5), .val (.ref b12), .val (.int (own_ha (own_vr r1) (d1 &&& (9223372036854775807 : Int64)))), .val (.int (own_ha (own_vr r2) (d2 &&& (9223372036854775807 : Int64)))), .val (.int (((own_fo (own_vr r1)) * (31 : Int32)) + (own_fo (d1 &&& (9223372036854775807 : Int64))))), .val (.int (((own_fo (own_vr r2)) * (31 : Int32)) + (own_fo (d2 &&& (9223372036854775807 : Int64)))))] [(.int (own_ha (own_vr r1) (d1 &&& (9223372036854775807 : Int64))))])) _
        refine XS.iload X31.here hx rfl (hb hby at_162) rfl ?_
        show Steps p.tables e below (T31.setTop (mkF m 164 #[.val (.long r1), .second, .val (.long d1), .second, .val (.long r2), .second, .val (.long d2), .second, .val (.int fl), .val (.long (own_vr r1)), .second, .val (.long (d1 &&& (9223372036854775807 : Int64))), .second, .val (.int (0 : Int32)), .val (.long (own_vr r2)), .second, .val (.long (d2 &&& (9223372036854775807 : Int64))), .second, .val (.ref b5), .val (.ref b12), .val (.int (own_ha (own_vr r1) (d1 &&& (9223372036854775807 : Int64)))), .val (.int (own_ha (own_vr r2) (d2 &&& (9223372036854775807 : Int64)))), .val (.int (((own_fo (own_vr r1)) * (31 : Int32)) + (own_fo (d1 &&& (9223372036854775807 : Int64))))), .val (.int (((own_fo (own_vr r2)) * (31 : Int32)) + (own_fo (d2 &&& (9223372036854775807 : Int64)))))] [(.int (own_ha (own_vr r2) (d2 &&& (9223372036854775807 : Int64)))), (.int (own_ha (own_vr r1) (d1 &&& (9223372036854775807 : Int64))))])) _
        refine XS.icmpYes X31.here hx rfl (pc0 := 164) (pc' := 169) rfl (hb hby at_164) rfl (teq he).1 (by decide) (by decide) ?_
        show Steps p.tables e below (T31.setTop (mkF m 169 #[.val (.long r1), .second, .val (.long d1), .second, .val (.long r2), .second, .val (.long d2), .second, .val (.int fl), .val (.long (own_vr r1)), .second, .val (.long (d1 &&& (9223372036854775807 : Int64))), .second, .val (.int (0 : Int32)), .val (.long (own_vr r2)), .second, .val (.long (d2 &&& (9223372036854775807 : Int64))), .second, .val (.ref b5), .val (.ref b12), .val (.int (own_ha (own_vr r1) (d1 &&& (9223372036854775807 : Int64)))), .val (.int (own_ha (own_vr r2) (d2 &&& (9223372036854775807 : Int64)))), .val (.int (((own_fo (own_vr r1)) * (31 : Int32)) + (own_fo (d1 &&& (9223372036854775807 : Int64))))), .val (.int (((own_fo (own_vr r2)) * (31 : Int32)) + (own_fo (d2 &&& (9223372036854775807 : Int64)))))] [])) _
        refine XS.iconst X31.here hx rfl (hb hby at_169) ?_
        show Steps p.tables e below (T31.setTop (mkF m 170 #[.val (.long r1), .second, .val (.long d1), .second, .val (.long r2), .second, .val (.long d2), .second, .val (.int fl), .val (.long (own_vr r1)), .second, .val (.long (d1 &&& (9223372036854775807 : Int64))), .second, .val (.int (0 : Int32)), .val (.long (own_vr r2)), .second, .val (.long (d2 &&& (9223372036854775807 : Int64))), .second, .val (.ref b5), .val (.ref b12), .val (.int (own_ha (own_vr r1) (d1 &&& (9223372036854775807 : Int64)))), .val (.int (own_ha (own_vr r2) (d2 &&& (9223372036854775807 : Int64)))), .val (.int (((own_fo (own_vr r1)) * (31 : Int32)) + (own_fo (d1 &&& (9223372036854775807 : Int64))))), .val (.int (((own_fo (own_vr r2)) * (31 : Int32)) + (own_fo (d2 &&& (9223372036854775807 : Int64)))))] [(.int (1 : Int32))])) _
        exact retN X31 hx (t := .boolean) Bd.returns (by simp) (hb hby at_170) hr
      · show own_Q0 Z r1 d1 r2 d2 fl h0 n0 _ T31.heap _
        rw [e31]
        exact ⟨rfl, N31⟩
  · obtain ⟨T34, h34, X34, e34, E34, A34, D34, U34, st34⟩ := newO X1 hx hZ hown (hw _ (List.mem_of_getElem? (i := 5) rfl)) (hw _ (List.mem_of_getElem? (i := 6) rfl)) (hw _ (List.mem_of_getElem? (i := 7) rfl)) e1 (g := (mkF m 62 #[.val (.long r1), .second, .val (.long d1), .second, .val (.long r2), .second, .val (.long d2), .second, .val (.int fl), .val (.long (own_vr r1)), .second, .val (.long (d1 &&& (9223372036854775807 : Int64))), .second, .val (.int (1 : Int32)), .val (.long (own_vr r1)), .second, .val (.long (d1 &&& (9223372036854775807 : Int64))), .second, .unset, .unset, .unset, .unset, .unset, .unset] [])) rfl (hb hby at_62) (by decide) (by decide)
    obtain ⟨b34, g34⟩ : ∃ z, z = h0.size := ⟨_, rfl⟩
    rw [← g34] at A34 D34 U34 st34
    have g_b34 : n0 ≤ b34 := Nat.le_trans Z0 (Nat.le_of_eq g34.symm)
    have sz_b34 : h0.size ≤ b34 := Nat.le_trans (Keep.refl h0 []).1 (Nat.le_of_eq g34.symm)
    have z35 := Nat.le_trans Z0 E34.1
    have kp36 := (Keep.refl h0 []).ext E34
    have F_rate_b34 : Fld Z h34 b34 "com/example/tollwright/tollwright/planner/Contract" "rate" "J" (.long (0 : Int64)) := D34 (Or.inr (hw _ (List.mem_of_getElem? (i := 15) rfl))) (ty := .long) (by decide)
    have F_depth_b34 : Fld Z h34 b34 "com/example/tollwright/tollwright/planner/Contract" "depth" "J" (.long (0 : Int64)) := D34 (Or.inr (hw _ (List.mem_of_getElem? (i := 17) rfl))) (ty := .long) (by decide)
    obtain ⟨_, _, ⟨T37, L37, k37, n37⟩, -, X37, ⟨Lc37, hQ37, l37, y37, z37⟩, st37⟩ := X34.specialBack hx (y := (⟨"com/example/tollwright/tollwright/planner/Contract", "<init>", "(JJ)V"⟩ : MethodName)) rfl hown (mvT hZ (hw _ (List.mem_of_getElem? (i := 8) rfl))) (mvT hZ (hw _ (List.mem_of_getElem? (i := 9) rfl))) (mvT hZ (hw _ (List.mem_of_getElem? (i := 10) rfl))) (by decide) (backOf (W := 1) (rm2 l Z a0 hw [] b34 (own_vr r1) (d1 &&& (9223372036854775807 : Int64)) h34 n0 z35 A34 F_rate_b34 F_depth_b34 g_b34 (own_vr_pos r1) (own_mask d1)) hZ (hw _ (List.mem_of_getElem? (i := 10) rfl)) (hw _ (List.mem_of_getElem? (i := 7) rfl)) (by decide) (by decide)) (g := (mkF m 70 #[.val (.long r1), .second, .val (.long d1), .second, .val (.long r2), .second, .val (.long d2), .second, .val (.int fl), .val (.long (own_vr r1)), .second, .val (.long (d1 &&& (9223372036854775807 : Int64))), .second, .val (.int (1 : Int32)), .val (.long (own_vr r1)), .second, .val (.long (d1 &&& (9223372036854775807 : Int64))), .second, .unset, .unset, .unset, .unset, .unset, .unset] [(.long (d1 &&& (9223372036854775807 : Int64))), (.long (own_vr r1)), (.ref b34), (.ref b34)])) rfl (by rw [hml]; rfl) (Steps.refl _) (a := b34) (argsL := [(.long (own_vr r1)), (.long (d1 &&& (9223372036854775807 : Int64)))]) (rest := [(.ref b34)]) (lenOf pd_1 rfl) rfl (by show 2 * 0 + _ ≤ _; exact Nat.le_of_eq rfl) (hb hby at_70) (fun _ _ => ⟨rfl, e34, (by decide : 1 + 0 ≤ _), (by decide : 2 + 0 ≤ _)⟩)
    dsimp only [Pt.U, Pt.locs, Pt.cells, Pt.slots] at X37 l37 y37 z37 st37 hQ37
    subst l37 y37 z37
    obtain ⟨rfl, N37q, K37, Eo37, Fr37, Fd37⟩ := hQ37
    have N37 := Fr.app N1 N37q
    have f38 := A34.keep K37
    have z39 := Nat.le_trans z35 K37.1
    have kp40 := Keep.trans kp36 K37 (allS (Or.inr sz_b34) all0)
    obtain ⟨T41, h41, X41, e41, E41, A41, D41, U41, st41⟩ := newO X37 hx hZ hown (hw _ (List.mem_of_getElem? (i := 5) rfl)) (hw _ (List.mem_of_getElem? (i := 6) rfl)) (hw _ (List.mem_of_getElem? (i := 7) rfl)) rfl (g := (mkF m 75 #[.val (.long r1), .second, .val (.long d1), .second, .val (.long r2), .second, .val (.long d2), .second, .val (.int fl), .val (.long (own_vr r1)), .second, .val (.long (d1 &&& (9223372036854775807 : Int64))), .second, .val (.int (1 : Int32)), .val (.long (own_vr r1)), .second, .val (.long (d1 &&& (9223372036854775807 : Int64))), .second, .val (.ref b34), .unset, .unset, .unset, .unset, .unset] [])) rfl (hb hby at_75) (by decide) (by decide)
    obtain ⟨b41, g41⟩ : ∃ z, z = T37.heap.size := ⟨_, rfl⟩
    rw [← g41] at A41 D41 U41 st41
    have ne_b34_b41 : b34 ≠ b41 := Nat.ne_of_lt (Nat.lt_of_lt_of_le Eo37.lt (Nat.le_of_eq g41.symm))
    have g_b41 : n0 ≤ b41 := Nat.le_trans z39 (Nat.le_of_eq g41.symm)
    have sz_b41 : h0.size ≤ b41 := Nat.le_trans kp40.1 (Nat.le_of_eq g41.symm)
    have f42 := Eo37.ext E41
    have f43 := Fr37.ext E41
    have f44 := Fd37.ext E41
    have z45 := Nat.le_trans z39 E41.1
    have kp46 := kp40.ext E41
    have F_rate_b41 : Fld Z h41 b41 "com/example/tollwright/tollwright/planner/Contract" "rate" "J" (.long (0 : Int64)) := D41 (Or.inr (hw _ (List.mem_of_getElem? (i := 15) rfl))) (ty := .long) (by decide)
    have F_depth_b41 : Fld Z h41 b41 "com/example/tollwright/tollwright/planner/Contract" "depth" "J" (.long (0 : Int64)) := D41 (Or.inr (hw _ (List.mem_of_getElem? (i := 17) rfl))) (ty := .long) (by decide)
    obtain ⟨_, _, ⟨T47, L47, k47, n47⟩, -, X47, ⟨Lc47, hQ47, l47, y47, z47⟩, st47⟩ := X41.specialBack hx (y := (⟨"com/example/tollwright/tollwright/planner/Contract", "<init>", "(JJ)V"⟩ : MethodName)) rfl hown (mvT hZ (hw _ (List.mem_of_getElem? (i := 8) rfl))) (mvT hZ (hw _ (List.mem_of_getElem? (i := 9) rfl))) (mvT hZ (hw _ (List.mem_of_getElem? (i := 10) rfl))) (by decide) (backOf (W := 1) (rm2 l Z a0 hw [] b41 (own_vr r1) (d1 &&& (9223372036854775807 : Int64)) h41 n0 z45 A41 F_rate_b41 F_depth_b41 g_b41 (own_vr_pos r1) (own_mask d1)) hZ (hw _ (List.mem_of_getElem? (i := 10) rfl)) (hw _ (List.mem_of_getElem? (i := 7) rfl)) (by decide) (by decide)) (g := (mkF m 83 #[.val (.long r1), .second, .val (.long d1), .second, .val (.long r2), .second, .val (.long d2), .second, .val (.int fl), .val (.long (own_vr r1)), .second, .val (.long (d1 &&& (9223372036854775807 : Int64))), .second, .val (.int (1 : Int32)), .val (.long (own_vr r1)), .second, .val (.long (d1 &&& (9223372036854775807 : Int64))), .second, .val (.ref b34), .unset, .unset, .unset, .unset, .unset] [(.long (d1 &&& (9223372036854775807 : Int64))), (.long (own_vr r1)), (.ref b41), (.ref b41)])) rfl (by rw [hml]; rfl) (Steps.refl _) (a := b41) (argsL := [(.long (own_vr r1)), (.long (d1 &&& (9223372036854775807 : Int64)))]) (rest := [(.ref b41)]) (lenOf pd_1 rfl) rfl (by show 2 * 0 + _ ≤ _; exact Nat.le_of_eq rfl) (hb hby at_83) (fun _ _ => ⟨rfl, e41, (by decide : 2 + 0 ≤ _), (by decide : 4 + 0 ≤ _)⟩)
    dsimp only [Pt.U, Pt.locs, Pt.cells, Pt.slots] at X47 l47 y47 z47 st47 hQ47
    subst l47 y47 z47
    obtain ⟨rfl, N47q, K47, Eo47, Fr47, Fd47⟩ := hQ47
    have N47 := Fr.app N37 N47q
    have f48 := f42.keep K47
    have f49 := f43.keep K47 (ninS ne_b34_b41 nin0)
    have f50 := f44.keep K47 (ninS ne_b34_b41 nin0)
    have f51 := A41.keep K47
    have z52 := Nat.le_trans z45 K47.1
    have kp53 := Keep.trans kp46 K47 (allS (Or.inr sz_b41) all0)
    obtain ⟨cq54, kq54, q54a, q54b, q54c⟩ := isOf hZ rfl f48
    obtain ⟨_, _, ⟨T54, L54, k54, n54⟩, -, X54, ⟨Lc54, hQ54, l54, y54, z54⟩, st54⟩ := X47.virtualBack hx (y := (⟨"com/example/tollwright/tollwright/planner/Contract", "hashCode", "()I"⟩ : MethodName)) (z := (⟨"com/example/tollwright/tollwright/planner/Contract", "hashCode", "()I"⟩ : MethodName)) hown (mvT hZ (hw _ (List.mem_of_getElem? (i := 18) rfl))) (mvT hZ (hw _ (List.mem_of_getElem? (i := 19) rfl))) (notFace_of_selects (args := #[]) (mvT hZ (hw _ (List.mem_of_getElem? (i := 21) rfl)))) (mvT hZ (hw _ (List.mem_of_getElem? (i := 21) rfl))) (mvT hZ (hw _ (List.mem_of_getElem? (i := 20) rfl))) (by decide) (backOf (W := 0) (rm4 l Z a0 hw [] b34 (own_vr r1) (d1 &&& (9223372036854775807 : Int64)) T47.heap n0 z52 f49 f50) hZ (hw _ (List.mem_of_getElem? (i := 22) rfl)) (hw _ (List.mem_of_getElem? (i := 7) rfl)) (by decide) (by decide)) q54a q54c (g := (mkF m 90 #[.val (.long r1), .second, .val (.long d1), .second, .val (.long r2), .second, .val (.long d2), .second, .val (.int fl), .val (.long (own_vr r1)), .second, .val (.long (d1 &&& (9223372036854775807 : Int64))), .second, .val (.int (1 : Int32)), .val (.long (own_vr r1)), .second, .val (.long (d1 &&& (9223372036854775807 : Int64))), .second, .val (.ref b34), .val (.ref b41), .unset, .unset, .unset, .unset] [(.ref b34)])) rfl (by rw [hml]; rfl) (Steps.refl _) (argsL := []) (rest := []) (lenOf pd_3 rfl) rfl (by show 2 * 0 + _ ≤ _; exact Nat.le_of_eq rfl) (hb hby at_90) (fun _ _ => ⟨rfl, rfl, (by decide : 2 + 0 ≤ _), (by decide : 4 + 0 ≤ _)⟩)
    dsimp only [Pt.U, Pt.locs, Pt.cells, Pt.slots] at X54 l54 y54 z54 st54 hQ54
    subst l54 y54 z54
    obtain ⟨rfl, N54q, e54⟩ := hQ54
    have N54 := Fr.app N47 N54q
    obtain ⟨cq55, kq55, q55a, q55b, q55c⟩ := isOf hZ e54 Eo47
    obtain ⟨_, _, ⟨T55, L55, k55, n55⟩, -, X55, ⟨Lc55, hQ55, l55, y55, z55⟩, st55⟩ := X54.virtualBack hx (y := (⟨"com/example/tollwright/tollwright/planner/Contract", "hashCode", "()I"⟩ : MethodName)) (z := (⟨"com/example/tollwright/tollwright/planner/Contract", "hashCode", "()I"⟩ : MethodName)) hown (mvT hZ (hw _ (List.mem_of_getElem? (i := 18) rfl))) (mvT hZ (hw _ (List.mem_of_getElem? (i := 19) rfl))) (notFace_of_selects (args := #[]) (mvT hZ (hw _ (List.mem_of_getElem? (i := 21) rfl)))) (mvT hZ (hw _ (List.mem_of_getElem? (i := 21) rfl))) (mvT hZ (hw _ (List.mem_of_getElem? (i := 20) rfl))) (by decide) (backOf (W := 0) (rm4 l Z a0 hw [] b41 (own_vr r1) (d1 &&& (9223372036854775807 : Int64)) T47.heap n0 z52 Fr47 Fd47) hZ (hw _ (List.mem_of_getElem? (i := 22) rfl)) (hw _ (List.mem_of_getElem? (i := 7) rfl)) (by decide) (by decide)) q55a q55c (g := (mkF m 97 #[.val (.long r1), .second, .val (.long d1), .second, .val (.long r2), .second, .val (.long d2), .second, .val (.int fl), .val (.long (own_vr r1)), .second, .val (.long (d1 &&& (9223372036854775807 : Int64))), .second, .val (.int (1 : Int32)), .val (.long (own_vr r1)), .second, .val (.long (d1 &&& (9223372036854775807 : Int64))), .second, .val (.ref b34), .val (.ref b41), .val (.int (own_ha (own_vr r1) (d1 &&& (9223372036854775807 : Int64)))), .unset, .unset, .unset] [(.ref b41)])) rfl (by rw [hml]; rfl) (Steps.refl _) (argsL := []) (rest := []) (lenOf pd_3 rfl) rfl (by show 2 * 0 + _ ≤ _; exact Nat.le_of_eq rfl) (hb hby at_97) (fun _ _ => ⟨rfl, e54, (by decide : 2 + 0 ≤ _), (by decide : 4 + 0 ≤ _)⟩)
    dsimp only [Pt.U, Pt.locs, Pt.cells, Pt.slots] at X55 l55 y55 z55 st55 hQ55
    subst l55 y55 z55
    obtain ⟨rfl, N55q, e55⟩ := hQ55
    have N55 := Fr.app N54 N55q
    obtain ⟨_, _, ⟨T56, L56, k56, n56⟩, -, X56, ⟨Lc56, hQ56, l56, y56, z56⟩, st56⟩ := Jvm.LawKit.callS X55 hx (y := (⟨"com/example/tollwright/tollwright/planner/ContractHashCodePinLaw", "fold", "(J)I"⟩ : MethodName)) hown (mvT hZ (hw _ (List.mem_of_getElem? (i := 27) rfl))) (mvT hZ (hw _ (List.mem_of_getElem? (i := 28) rfl))) (mvT hZ (hw _ (List.mem_of_getElem? (i := 2) rfl))) (mvT hZ (hw _ (List.mem_of_getElem? (i := 29) rfl))) (by decide) (backOf (W := 0) (rm6 l Z a0 hw [] (own_vr r1) T47.heap n0 z52) hZ (hw _ (List.mem_of_getElem? (i := 29) rfl)) (hw _ (List.mem_of_getElem? (i := 2) rfl)) (by decide) (by decide)) (g := (mkF m 104 #[.val (.long r1), .second, .val (.long d1), .second, .val (.long r2), .second, .val (.long d2), .second, .val (.int fl), .val (.long (own_vr r1)), .second, .val (.long (d1 &&& (9223372036854775807 : Int64))), .second, .val (.int (1 : Int32)), .val (.long (own_vr r1)), .second, .val (.long (d1 &&& (9223372036854775807 : Int64))), .second, .val (.ref b34), .val (.ref b41), .val (.int (own_ha (own_vr r1) (d1 &&& (9223372036854775807 : Int64)))), .val (.int (own_ha (own_vr r1) (d1 &&& (9223372036854775807 : Int64)))), .unset, .unset] [(.long (own_vr r1))])) rfl (by rw [hml]; rfl) (argsL := [(.long (own_vr r1))]) (rest := []) (lenOf pd_4 rfl) rfl (by show 2 * 0 + _ ≤ _; exact Nat.le_of_eq rfl) (hb hby at_104) (fun _ _ => ⟨rfl, e55, (by decide : 2 + 0 ≤ _), (by decide : 4 + 0 ≤ _)⟩)
    dsimp only [Pt.U, Pt.locs, Pt.cells, Pt.slots] at X56 l56 y56 z56 st56 hQ56
    subst l56 y56 z56
    obtain ⟨rfl, N56q, e56⟩ := hQ56
    have N56 := Fr.app N55 N56q
    obtain ⟨_, _, ⟨T57, L57, k57, n57⟩, -, X57, ⟨Lc57, hQ57, l57, y57, z57⟩, st57⟩ := Jvm.LawKit.callS X56 hx (y := (⟨"com/example/tollwright/tollwright/planner/ContractHashCodePinLaw", "fold", "(J)I"⟩ : MethodName)) hown (mvT hZ (hw _ (List.mem_of_getElem? (i := 27) rfl))) (mvT hZ (hw _ (List.mem_of_getElem? (i := 28) rfl))) (mvT hZ (hw _ (List.mem_of_getElem? (i := 2) rfl))) (mvT hZ (hw _ (List.mem_of_getElem? (i := 29) rfl))) (by decide) (backOf (W := 1) (rm6 l Z a0 hw [] (d1 &&& (9223372036854775807 : Int64)) T47.heap n0 z52) hZ (hw _ (List.mem_of_getElem? (i := 29) rfl)) (hw _ (List.mem_of_getElem? (i := 2) rfl)) (by decide) (by decide)) (g := (mkF m 112 #[.val (.long r1), .second, .val (.long d1), .second, .val (.long r2), .second, .val (.long d2), .second, .val (.int fl), .val (.long (own_vr r1)), .second, .val (.long (d1 &&& (9223372036854775807 : Int64))), .second, .val (.int (1 : Int32)), .val (.long (own_vr r1)), .second, .val (.long (d1 &&& (9223372036854775807 : Int64))), .second, .val (.ref b34), .val (.ref b41), .val (.int (own_ha (own_vr r1) (d1 &&& (9223372036854775807 : Int64)))), .val (.int (own_ha (own_vr r1) (d1 &&& (9223372036854775807 : Int64)))), .unset, .unset] [(.long (d1 &&& (9223372036854775807 : Int64))), (.int ((own_fo (own_vr r1)) * (31 : Int32)))])) rfl (by rw [hml]; rfl) (argsL := [(.long (d1 &&& (9223372036854775807 : Int64)))]) (rest := [(.int ((own_fo (own_vr r1)) * (31 : Int32)))]) (lenOf pd_4 rfl) rfl (by show 2 * 0 + _ ≤ _; exact Nat.le_of_eq rfl) (hb hby at_112) (fun _ _ => ⟨rfl, e56, (by decide : 2 + 0 ≤ _), (by decide : 4 + 0 ≤ _)⟩)
    dsimp only [Pt.U, Pt.locs, Pt.cells, Pt.slots] at X57 l57 y57 z57 st57 hQ57
    subst l57 y57 z57
    obtain ⟨rfl, N57q, e57⟩ := hQ57
    have N57 := Fr.app N56 N57q
    obtain ⟨_, _, ⟨T58, L58, k58, n58⟩, -, X58, ⟨Lc58, hQ58, l58, y58, z58⟩, st58⟩ := Jvm.LawKit.callS X57 hx (y := (⟨"com/example/tollwright/tollwright/planner/ContractHashCodePinLaw", "fold", "(J)I"⟩ : MethodName)) hown (mvT hZ (hw _ (List.mem_of_getElem? (i := 27) rfl))) (mvT hZ (hw _ (List.mem_of_getElem? (i := 28) rfl))) (mvT hZ (hw _ (List.mem_of_getElem? (i := 2) rfl))) (mvT hZ (hw _ (List.mem_of_getElem? (i := 29) rfl))) (by decide) (backOf (W := 0) (rm6 l Z a0 hw [] (own_vr r1) T47.heap n0 z52) hZ (hw _ (List.mem_of_getElem? (i := 29) rfl)) (hw _ (List.mem_of_getElem? (i := 2) rfl)) (by decide) (by decide)) (g := (mkF m 120 #[.val (.long r1), .second, .val (.long d1), .second, .val (.long r2), .second, .val (.long d2), .second, .val (.int fl), .val (.long (own_vr r1)), .second, .val (.long (d1 &&& (9223372036854775807 : Int64))), .second, .val (.int (1 : Int32)), .val (.long (own_vr r1)), .second, .val (.long (d1 &&& (9223372036854775807 : Int64))), .second, .val (.ref b34), .val (.ref b41), .val (.int (own_ha (own_vr r1) (d1 &&& (9223372036854775807 : Int64)))), .val (.int (own_ha (own_vr r1) (d1 &&& (9223372036854775807 : Int64)))), .val (.int (((own_fo (own_vr r1)) * (31 : Int32)) + (own_fo (d1 &&& (9223372036854775807 : Int64))))), .unset] [(.long (own_vr r1))])) rfl (by rw [hml]; rfl) (argsL := [(.long (own_vr r1))]) (rest := []) (lenOf pd_4 rfl) rfl (by show 2 * 0 + _ ≤ _; exact Nat.le_of_eq rfl) (hb hby at_120) (fun _ _ => ⟨rfl, e57, (by decide : 2 + 0 ≤ _), (by decide : 4 + 0 ≤ _)⟩)
    dsimp only [Pt.U, Pt.locs, Pt.cells, Pt.slots] at X58 l58 y58 z58 st58 hQ58
    subst l58 y58 z58
    obtain ⟨rfl, N58q, e58⟩ := hQ58
    have N58 := Fr.app N57 N58q
    obtain ⟨_, _, ⟨T59, L59, k59, n59⟩, -, X59, ⟨Lc59, hQ59, l59, y59, z59⟩, st59⟩ := Jvm.LawKit.callS X58 hx (y := (⟨"com/example/tollwright/tollwright/planner/ContractHashCodePinLaw", "fold", "(J)I"⟩ : MethodName)) hown (mvT hZ (hw _ (List.mem_of_getElem? (i := 27) rfl))) (mvT hZ (hw _ (List.mem_of_getElem? (i := 28) rfl))) (mvT hZ (hw _ (List.mem_of_getElem? (i := 2) rfl))) (mvT hZ (hw _ (List.mem_of_getElem? (i := 29) rfl))) (by decide) (backOf (W := 1) (rm6 l Z a0 hw [] (d1 &&& (9223372036854775807 : Int64)) T47.heap n0 z52) hZ (hw _ (List.mem_of_getElem? (i := 29) rfl)) (hw _ (List.mem_of_getElem? (i := 2) rfl)) (by decide) (by decide)) (g := (mkF m 128 #[.val (.long r1), .second, .val (.long d1), .second, .val (.long r2), .second, .val (.long d2), .second, .val (.int fl), .val (.long (own_vr r1)), .second, .val (.long (d1 &&& (9223372036854775807 : Int64))), .second, .val (.int (1 : Int32)), .val (.long (own_vr r1)), .second, .val (.long (d1 &&& (9223372036854775807 : Int64))), .second, .val (.ref b34), .val (.ref b41), .val (.int (own_ha (own_vr r1) (d1 &&& (9223372036854775807 : Int64)))), .val (.int (own_ha (own_vr r1) (d1 &&& (9223372036854775807 : Int64)))), .val (.int (((own_fo (own_vr r1)) * (31 : Int32)) + (own_fo (d1 &&& (9223372036854775807 : Int64))))), .unset] [(.long (d1 &&& (9223372036854775807 : Int64))), (.int ((own_fo (own_vr r1)) * (31 : Int32)))])) rfl (by rw [hml]; rfl) (argsL := [(.long (d1 &&& (9223372036854775807 : Int64)))]) (rest := [(.int ((own_fo (own_vr r1)) * (31 : Int32)))]) (lenOf pd_4 rfl) rfl (by show 2 * 0 + _ ≤ _; exact Nat.le_of_eq rfl) (hb hby at_128) (fun _ _ => ⟨rfl, e58, (by decide : 2 + 0 ≤ _), (by decide : 4 + 0 ≤ _)⟩)
    dsimp only [Pt.U, Pt.locs, Pt.cells, Pt.slots] at X59 l59 y59 z59 st59 hQ59
    subst l59 y59 z59
    obtain ⟨rfl, N59q, e59⟩ := hQ59
    have N59 := Fr.app N58 N59q
    obtain ⟨cq60, kq60, q60a, q60b, q60c⟩ := isOf hZ e59 f48
    obtain ⟨_, _, ⟨T60, L60, k60, n60⟩, -, X60, ⟨Lc60, hQ60, l60, y60, z60⟩, st60⟩ := X59.virtualBack hx (y := (⟨"com/example/tollwright/tollwright/planner/Contract", "equals", "(Ljava/lang/Object;)Z"⟩ : MethodName)) (z := (⟨"com/example/tollwright/tollwright/planner/Contract", "equals", "(Ljava/lang/Object;)Z"⟩ : MethodName)) hown (mvT hZ (hw _ (List.mem_of_getElem? (i := 30) rfl))) (mvT hZ (hw _ (List.mem_of_getElem? (i := 31) rfl))) (notFace_of_selects (args := #[]) (mvT hZ (hw _ (List.mem_of_getElem? (i := 33) rfl)))) (mvT hZ (hw _ (List.mem_of_getElem? (i := 33) rfl))) (mvT hZ (hw _ (List.mem_of_getElem? (i := 32) rfl))) (by decide) (backOf (W := 0) (rm7 l Z a0 hw [] b34 b41 (own_vr r1) (d1 &&& (9223372036854775807 : Int64)) (own_vr r1) (d1 &&& (9223372036854775807 : Int64)) T47.heap n0 z52 Eo47 f49 f50 Fr47 Fd47) hZ (hw _ (List.mem_of_getElem? (i := 34) rfl)) (hw _ (List.mem_of_getElem? (i := 7) rfl)) (by decide) (by decide)) q60a q60c (g := (mkF m 154 #[.val (.long r1), .second, .val (.long d1), .second, .val (.long r2), .second, .val (.long d2), .second, .val (.int fl), .val (.long (own_vr r1)), .second, .val (.long (d1 &&& (9223372036854775807 : Int64))), .second, .val (.int (1 : Int32)), .val (.long (own_vr r1)), .second, .val (.long (d1 &&& (9223372036854775807 : Int64))), .second, .val (.ref b34), .val (.ref b41), .val (.int (own_ha (own_vr r1) (d1 &&& (9223372036854775807 : Int64)))), .val (.int (own_ha (own_vr r1) (d1 &&& (9223372036854775807 : Int64)))), .val (.int (((own_fo (own_vr r1)) * (31 : Int32)) + (own_fo (d1 &&& (9223372036854775807 : Int64))))), .val (.int (((own_fo (own_vr r1)) * (31 : Int32)) + (own_fo (d1 &&& (9223372036854775807 : Int64)))))] [(.ref b41), (.ref b34)])) rfl (by rw [hml]; rfl) (Steps.refl _) (argsL := [(.ref b41)]) (rest := []) (lenOf pd_5 rfl) rfl (by show 2 * 0 + _ ≤ _; exact Nat.le_of_eq rfl) (hb hby at_154) (fun _ _ => ⟨rfl, e59, (by decide : 2 + 0 ≤ _), (by decide : 4 + 0 ≤ _)⟩)
    dsimp only [Pt.U, Pt.locs, Pt.cells, Pt.slots] at X60 l60 y60 z60 st60 hQ60
    subst l60 y60 z60
    obtain ⟨rfl, N60q, e60⟩ := hQ60
    have N60 := Fr.app N59 N60q
    have k61 : ∀ tq, Steps p.tables e below (T60.setTop (mkF m 157 #[.val (.long r1), .second, .val (.long d1), .second, .val (.long r2), .second, .val (.long d2), .second, .val (.int fl), .val (.long (own_vr r1)), .second, .val (.long (d1 &&& (9223372036854775807 : Int64))), .second, .val (.int (1 : Int32)), .val (.long (own_vr r1)), .second, .val (.long (d1 &&& (9223372036854775807 : Int64))), .second, .val (.ref b34), .val (.ref b41), .val (.int (own_ha (own_vr r1) (d1 &&& (9223372036854775807 : Int64)))), .val (.int (own_ha (own_vr r1) (d1 &&& (9223372036854775807 : Int64)))), .val (.int (((own_fo (own_vr r1)) * (31 : Int32)) + (own_fo (d1 &&& (9223372036854775807 : Int64))))), .val (.int (((own_fo (own_vr r1)) * (31 : Int32)) + (own_fo (d1 &&& (9223372036854775807 : Int64)))))] [(.int (own_eq (own_vr r1) (d1 &&& (9223372036854775807 : Int64)) (own_vr r1) (d1 &&& (9223372036854775807 : Int64))))])) tq → Steps p.tables e below (s₁.setTop (entryFrame m #[(.long r1), (.long d1), (.long r2), (.long d2), (.int fl)] maxLocals)) tq := by
      intro tq kt
      refine k2 tq ?_
      show Steps p.tables e below (T1.setTop (mkF m 17 #[.val (.long r1), .second, .val (.long d1), .second, .val (.long r2), .second, .val (.long d2), .second, .val (.int fl), .val (.long (own_vr r1)), .second, .val (.long (d1 &&& (9223372036854775807 : Int64))), .second, .unset, .unset, .unset, .unset, .unset, .unset, .unset, .unset, .unset, .unset, .unset] [(.int (fl &&& (1 : Int32)))])) _
      refine XS.ifNo X1.here hx rfl (hb hby at_17) rfl ((if0 _ _).trans (feq hc3).1) ?_
      show Steps p.tables e below (T1.setTop (mkF m 20 #[.val (.long r1), .second, .val (.long d1), .second, .val (.long r2), .second, .val (.long d2), .second, .val (.int fl), .val (.long (own_vr r1)), .second, .val (.long (d1 &&& (9223372036854775807 : Int64))), .second, .unset, .unset, .unset, .unset, .unset, .unset, .unset, .unset, .unset, .unset, .unset] [])) _
      refine XS.iconst X1.here hx rfl (hb hby at_20) ?_
      show Steps p.tables e below (T1.setTop (mkF m 21 #[.val (.long r1), .second, .val (.long d1), .second, .val (.long r2), .second, .val (.long d2), .second, .val (.int fl), .val (.long (own_vr r1)), .second, .val (.long (d1 &&& (9223372036854775807 : Int64))), .second, .unset, .unset, .unset, .unset, .unset, .unset, .unset, .unset, .unset, .unset, .unset] [(.int (1 : Int32))])) _
      refine XS.goto X1.here hx rfl (pc0 := 21) (pc' := 25) rfl (hb hby at_21) (by decide) (by decide) ?_
      show Steps p.tables e below (T1.setTop (mkF m 25 #[.val (.long r1), .second, .val (.long d1), .second, .val (.long r2), .second, .val (.long d2), .second, .val (.int fl), .val (.long (own_vr r1)), .second, .val (.long (d1 &&& (9223372036854775807 : Int64))), .second, .unset, .unset, .unset, .unset, .unset, .unset, .unset, .unset, .unset, .unset, .unset] [(.int (1 : Int32))])) _
      refine XS.istore X1.here hx rfl (hb hby at_25) rfl (l' := #[.val (.long r1), .second, .val (.long d1), .second, .val (.long r2), .second, .val (.long d2), .second, .val (.int fl), .val (.long (own_vr r1)), .second, .val (.long (d1 &&& (9223372036854775807 : Int64))), .second, .val (.int (1 : Int32)), .unset, .unset, .unset, .unset, .unset, .unset, .unset, .unset, .unset, .unset]) rfl ?_
      show Steps p.tables e below (T1.setTop (mkF m 27 #[.val (.long r1), .second, .val (.long d1), .second, .val (.long r2), .second, .val (.long d2), .second, .val (.int fl), .val (.long (own_vr r1)), .second, .val (.long (d1 &&& (9223372036854775807 : Int64))), .second, .val (.int (1 : Int32)), .unset, .unset, .unset, .unset, .unset, .unset, .unset, .unset, .unset, .unset] [])) _
      refine XS.iload X1.here hx rfl (hb hby at_27) rfl ?_
      show Steps p.tables e below (T1.setTop (mkF m 29 #[.val (.long r1), .second, .val (.long d1), .second, .val (.long r2), .second, .val (.long d2), .second, .val (.int fl), .val (.long (own_vr r1)), .second, .val (.long (d1 &&& (9223372036854775807 : Int64))), .second, .val (.int (1 : Int32)), .unset, .unset, .unset, .unset, .unset, .unset, .unset, .unset, .unset, .unset] [(.int (1 : Int32))])) _
      refine XS.ifNo X1.here hx rfl (hb hby at_29) rfl ((if0 _ _).trans (feq (by decide : ¬ ((1 : Int32) = (0 : Int32)))).1) ?_
      show Steps p.tables e below (T1.setTop (mkF m 32 #[.val (.long r1), .second, .val (.long d1), .second, .val (.long r2), .second, .val (.long d2), .second, .val (.int fl), .val (.long (own_vr r1)), .second, .val (.long (d1 &&& (9223372036854775807 : Int64))), .second, .val (.int (1 : Int32)), .unset, .unset, .unset, .unset, .unset, .unset, .unset, .unset, .unset, .unset] [])) _
      refine XS.lload X1.here hx rfl (hb hby at_32) rfl ?_
      show Steps p.tables e below (T1.setTop (mkF m 34 #[.val (.long r1), .second, .val (.long d1), .second, .val (.long r2), .second, .val (.long d2), .second, .val (.int fl), .val (.long (own_vr r1)), .second, .val (.long (d1 &&& (9223372036854775807 : Int64))), .second, .val (.int (1 : Int32)), .unset, .unset, .unset, .unset, .unset, .unset, .unset, .unset, .unset, .unset] [(.long (own_vr r1))])) _
      refine XS.goto X1.here hx rfl (pc0 := 34) (pc' := 42) rfl (hb hby at_34) (by decide) (by decide) ?_
      show Steps p.tables e below (T1.setTop (mkF m 42 #[.val (.long r1), .second, .val (.long d1), .second, .val (.long r2), .second, .val (.long d2), .second, .val (.int fl), .val (.long (own_vr r1)), .second, .val (.long (d1 &&& (9223372036854775807 : Int64))), .second, .val (.int (1 : Int32)), .unset, .unset, .unset, .unset, .unset, .unset, .unset, .unset, .unset, .unset] [(.long (own_vr r1))])) _
      refine XS.lstore X1.here hx rfl (hb hby at_42) rfl (l' := #[.val (.long r1), .second, .val (.long d1), .second, .val (.long r2), .second, .val (.long d2), .second, .val (.int fl), .val (.long (own_vr r1)), .second, .val (.long (d1 &&& (9223372036854775807 : Int64))), .second, .val (.int (1 : Int32)), .val (.long (own_vr r1)), .second, .unset, .unset, .unset, .unset, .unset, .unset, .unset, .unset]) rfl ?_
      show Steps p.tables e below (T1.setTop (mkF m 44 #[.val (.long r1), .second, .val (.long d1), .second, .val (.long r2), .second, .val (.long d2), .second, .val (.int fl), .val (.long (own_vr r1)), .second, .val (.long (d1 &&& (9223372036854775807 : Int64))), .second, .val (.int (1 : Int32)), .val (.long (own_vr r1)), .second, .unset, .unset, .unset, .unset, .unset, .unset, .unset, .unset] [])) _
      refine XS.iload X1.here hx rfl (hb hby at_44) rfl ?_
      show Steps p.tables e below (T1.setTop (mkF m 46 #[.val (.long r1), .second, .val (.long d1), .second, .val (.long r2), .second, .val (.long d2), .second, .val (.int fl), .val (.long (own_vr r1)), .second, .val (.long (d1 &&& (9223372036854775807 : Int64))), .second, .val (.int (1 : Int32)), .val (.long (own_vr r1)), .second, .unset, .unset, .unset, .unset, .unset, .unset, .unset, .unset] [(.int (1 : Int32))])) _
      refine XS.ifNo X1.here hx rfl (hb hby at_46) rfl ((if0 _ _).trans (feq (by decide : ¬ ((1 : Int32) = (0 : Int32)))).1) ?_
      show Steps p.tables e below (T1.setTop (mkF m 49 #[.val (.long r1), .second, .val (.long d1), .second, .val (.long r2), .second, .val (.long d2), .second, .val (.int fl), .val (.long (own_vr r1)), .second, .val (.long (d1 &&& (9223372036854775807 : Int64))), .second, .val (.int (1 : Int32)), .val (.long (own_vr r1)), .second, .unset, .unset, .unset, .unset, .unset, .unset, .unset, .unset] [])) _
      refine XS.lload X1.here hx rfl (hb hby at_49) rfl ?_
      show Steps p.tables e below (T1.setTop (mkF m 51 #[.val (.long r1), .second, .val (.long d1), .second, .val (.long r2), .second, .val (.long d2), .second, .val (.int fl), .val (.long (own_vr r1)), .second, .val (.long (d1 &&& (9223372036854775807 : Int64))), .second, .val (.int (1 : Int32)), .val (.long (own_vr r1)), .second, .unset, .unset, .unset, .unset, .unset, .unset, .unset, .unset] [(.long (d1 &&& (9223372036854775807 : Int64)))])) _
      refine XS.goto X1.here hx rfl (pc0 := 51) (pc' := 60) rfl (hb hby at_51) (by decide) (by decide) ?_
      show Steps p.tables e below (T1.setTop (mkF m 60 #[.val (.long r1), .second, .val (.long d1), .second, .val (.long r2), .second, .val (.long d2), .second, .val (.int fl), .val (.long (own_vr r1)), .second, .val (.long (d1 &&& (9223372036854775807 : Int64))), .second, .val (.int (1 : Int32)), .val (.long (own_vr r1)), .second, .unset, .unset, .unset, .unset, .unset, .unset, .unset, .unset] [(.long (d1 &&& (9223372036854775807 : Int64)))])) _
      refine XS.lstore X1.here hx rfl (hb hby at_60) rfl (l' := #[.val (.long r1), .second, .val (.long d1), .second, .val (.long r2), .second, .val (.long d2), .second, .val (.int fl), .val (.long (own_vr r1)), .second, .val (.long (d1 &&& (9223372036854775807 : Int64))), .second, .val (.int (1 : Int32)), .val (.long (own_vr r1)), .second, .val (.long (d1 &&& (9223372036854775807 : Int64))), .second, .unset, .unset, .unset, .unset, .unset, .unset]) rfl ?_
      show Steps p.tables e below (T1.setTop (mkF m 62 #[.val (.long r1), .second, .val (.long d1), .second, .val (.long r2), .second, .val (.long d2), .second, .val (.int fl), .val (.long (own_vr r1)), .second, .val (.long (d1 &&& (9223372036854775807 : Int64))), .second, .val (.int (1 : Int32)), .val (.long (own_vr r1)), .second, .val (.long (d1 &&& (9223372036854775807 : Int64))), .second, .unset, .unset, .unset, .unset, .unset, .unset] [])) _
      refine st34 _ ?_
      show Steps p.tables e below (T34.setTop (mkF m 65 #[.val (.long r1), .second, .val (.long d1), .second, .val (.long r2), .second, .val (.long d2), .second, .val (.int fl), .val (.long (own_vr r1)), .second, .val (.long (d1 &&& (9223372036854775807 : Int64))), .second, .val (.int (1 : Int32)), .val (.long (own_vr r1)), .second, .val (.long (d1 &&& (9223372036854775807 : Int64))), .second, .unset, .unset, .unset, .unset, .unset, .unset] [(.ref b34)])) _
      refine XS.dup X34.here hx rfl (hb hby at_65) rfl rfl ?_
      show Steps p.tables e below (T34.setTop (mkF m 66 #[.val (.long r1), .second, .val (.long d1), .second, .val (.long r2), .second, .val (.long d2), .second, .val (.int fl), .val (.long (own_vr r1)), .second, .val (.long (d1 &&& (9223372036854775807 : Int64))), .second, .val (.int (1 : Int32)), .val (.long (own_vr r1)), .second, .val (.long (d1 &&& (9223372036854775807 : Int64))), .second, .unset, .unset, .unset, .unset, .unset, .unset] [(.ref b34), (.ref b34)])) _
      refine XS.lload X34.here hx rfl (hb hby at_66) rfl ?_
      show Steps p.tables e below (T34.setTop (mkF m 68 #[.val (.long r1), .second, .val (.long d1), .second, .val (.long r2), .second, .val (.long d2), .second, .val (.int fl), .val (.long (own_vr r1)), .second, .val (.long (d1 &&& (9223372036854775807 : Int64))), .second, .val (.int (1 : Int32)), .val (.long (own_vr r1)), .second, .val (.long (d1 &&& (9223372036854775807 : Int64))), .second, .unset, .unset, .unset, .unset, .unset, .unset] [(.long (own_vr r1)), (.ref b34), (.ref b34)])) _
      refine XS.lload X34.here hx rfl (hb hby at_68) rfl ?_
      show Steps p.tables e below (T34.setTop (mkF m 70 #[.val (.long r1), .second, .val (.long d1), .second, .val (.long r2), .second, .val (.long d2), .second, .val (.int fl), .val (.long (own_vr r1)), .second, .val (.long (d1 &&& (9223372036854775807 : Int64))), .second, .val (.int (1 : Int32)), .val (.long (own_vr r1)), .second, .val (.long (d1 &&& (9223372036854775807 : Int64))), .second, .unset, .unset, .unset, .unset, .unset, .unset] [(.long (d1 &&& (9223372036854775807 : Int64))), (.long (own_vr r1)), (.ref b34), (.ref b34)])) _
      refine st37.trans ?_
      show Steps p.tables e below (T37.setTop (mkF m 73 #[.val (.long r1), .second, .val (.long d1), .second, .val (.long r2), .second, .val (.long d2), .second, .val (.int fl), .val (.long (own_vr r1)), .second, .val (.long (d1 &&& (9223372036854775807 : Int64))), .second, .val (.int (1 : Int32)), .val (.long (own_vr r1)), .second, .val (.long (d1 &&& (9223372036854775807 : Int64))), .second, .unset, .unset, .unset, .unset, .unset, .unset] [(.ref b34)])) _
      refine XS.astore X37.here hx rfl (hb hby at_73) rfl rfl (l' := #[.val (.long r1), .second, .val (.long d1), .second, .val (.long r2), .second, .val (.long d2), .second, .val (.int fl), .val (.long (own_vr r1)), .second, .val (.long (d1 &&& (9223372036854775807 : Int64))), .second, .val (.int (1 : Int32)), .val (.long (own_vr r1)), .second, .val (.long (d1 &&& (9223372036854775807 : Int64))), .second, .val (.ref b34), .unset, .unset, .unset, .unset, .unset]) rfl ?_
      show Steps p.tables e below (T37.setTop (mkF m 75 #[.val (.long r1), .second, .val (.long d1), .second, .val (.long r2), .second, .val (.long d2), .second, .val (.int fl), .val (.long (own_vr r1)), .second, .val (.long (d1 &&& (9223372036854775807 : Int64))), .second, .val (.int (1 : Int32)), .val (.long (own_vr r1)), .second, .val (.long (d1 &&& (9223372036854775807 : Int64))), .second, .val (.ref b34), .unset, .unset, .unset, .unset, .unset] [])) _
      refine st41 _ ?_
      show Steps p.tables e below (T41.setTop (mkF m 78 #[.val (.long r1), .second, .val (.long d1), .second, .val (.long r2), .second, .val (.long d2), .second, .val (.int fl), .val (.long (own_vr r1)), .second, .val (.long (d1 &&& (9223372036854775807 : Int64))), .second, .val (.int (1 : Int32)), .val (.long (own_vr r1)), .second, .val (.long (d1 &&& (9223372036854775807 : Int64))), .second, .val (.ref b34), .unset, .unset, .unset, .unset, .unset] [(.ref b41)])) _
      refine XS.dup X41.here hx rfl (hb hby at_78) rfl rfl ?_
      show Steps p.tables e below (T41.setTop (mkF m 79 #[.val (.long r1), .second, .val (.long d1), .second, .val (.long r2), .second, .val (.long d2), .second, .val (.int fl), .val (.long (own_vr r1)), .second, .val (.long (d1 &&& (9223372036854775807 : Int64))), .second, .val (.int (1 : Int32)), .val (.long (own_vr r1)), .second, .val (.long (d1 &&& (9223372036854775807 : Int64))), .second, .val (.ref b34), .unset, .unset, .unset, .unset, .unset] [(.ref b41), (.ref b41)])) _
      refine XS.lload X41.here hx rfl (hb hby at_79) rfl ?_
      show Steps p.tables e below (T41.setTop (mkF m 81 #[.val (.long r1), .second, .val (.long d1), .second, .val (.long r2), .second, .val (.long d2), .second, .val (.int fl), .val (.long (own_vr r1)), .second, .val (.long (d1 &&& (9223372036854775807 : Int64))), .second, .val (.int (1 : Int32)), .val (.long (own_vr r1)), .second, .val (.long (d1 &&& (9223372036854775807 : Int64))), .second, .val (.ref b34), .unset, .unset, .unset, .unset, .unset] [(.long (own_vr r1)), (.ref b41), (.ref b41)])) _
      refine XS.lload X41.here hx rfl (hb hby at_81) rfl ?_
      show Steps p.tables e below (T41.setTop (mkF m 83 #[.val (.long r1), .second, .val (.long d1), .second, .val (.long r2), .second, .val (.long d2), .second, .val (.int fl), .val (.long (own_vr r1)), .second, .val (.long (d1 &&& (9223372036854775807 : Int64))), .second, .val (.int (1 : Int32)), .val (.long (own_vr r1)), .second, .val (.long (d1 &&& (9223372036854775807 : Int64))), .second, .val (.ref b34), .unset, .unset, .unset, .unset, .unset] [(.long (d1 &&& (9223372036854775807 : Int64))), (.long (own_vr r1)), (.ref b41), (.ref b41)])) _
      refine st47.trans ?_
      show Steps p.tables e below (T47.setTop (mkF m 86 #[.val (.long r1), .second, .val (.long d1), .second, .val (.long r2), .second, .val (.long d2), .second, .val (.int fl), .val (.long (own_vr r1)), .second, .val (.long (d1 &&& (9223372036854775807 : Int64))), .second, .val (.int (1 : Int32)), .val (.long (own_vr r1)), .second, .val (.long (d1 &&& (9223372036854775807 : Int64))), .second, .val (.ref b34), .unset, .unset, .unset, .unset, .unset] [(.ref b41)])) _
      refine XS.astore X47.here hx rfl (hb hby at_86) rfl rfl (l' := #[.val (.long r1), .second, .val (.long d1), .second, .val (.long r2), .second, .val (.long d2), .second, .val (.int fl), .val (.long (own_vr r1)), .second, .val (.long (d1 &&& (9223372036854775807 : Int64))), .second, .val (.int (1 : Int32)), .val (.long (own_vr r1)), .second, .val (.long (d1 &&& (9223372036854775807 : Int64))), .second, .val (.ref b34), .val (.ref b41), .unset, .unset, .unset, .unset]) rfl ?_
      show Steps p.tables e below (T47.setTop (mkF m 88 #[.val (.long r1), .second, .val (.long d1), .second, .val (.long r2), .second, .val (.long d2), .second, .val (.int fl), .val (.long (own_vr r1)), .second, .val (.long (d1 &&& (9223372036854775807 : Int64))), .second, .val (.int (1 : Int32)), .val (.long (own_vr r1)), .second, .val (.long (d1 &&& (9223372036854775807 : Int64))), .second, .val (.ref b34), .val (.ref b41), .unset, .unset, .unset, .unset] [])) _
      refine XS.aload X47.here hx rfl (hb hby at_88) rfl rfl ?_
      show Steps p.tables e below (T47.setTop (mkF m 90 #[.val (.long r1), .second, .val (.long d1), .second, .val (.long r2), .second, .val (.long d2), .second, .val (.int fl), .val (.long (own_vr r1)), .second, .val (.long (d1 &&& (9223372036854775807 : Int64))), .second, .val (.int (1 : Int32)), .val (.long (own_vr r1)), .second, .val (.long (d1 &&& (9223372036854775807 : Int64))), .second, .val (.ref b34), .val (.ref b41), .unset, .unset, .unset, .unset] [(.ref b34)])) _
      refine st54.trans ?_
      show Steps p.tables e below (T54.setTop (mkF m 93 #[.val (.long r1), .second, .val (.long d1), .second, .val (.long r2), .second, .val (.long d2), .second, .val (.int fl), .val (.long (own_vr r1)), .second, .val (.long (d1 &&& (9223372036854775807 : Int64))), .second, .val (.int (1 : Int32)), .val (.long (own_vr r1)), .second, .val (.long (d1 &&& (9223372036854775807 : Int64))), .second, .val (.ref b34), .val (.ref b41), .unset, .unset, .unset, .unset] [(.int (own_ha (own_vr r1) (d1 &&& (9223372036854775807 : Int64))))])) _
      refine XS.istore X54.here hx rfl (hb hby at_93) rfl (l' := #[.val (.long r1), .second, .val (.long d1), .second, .val (.long r2), .second, .val (.long d2), .second, .val (.int fl), .val (.long (own_vr r1)), .second, .val (.long (d1 &&& (9223372036854775807 : Int64))), .second, .val (.int (1 : Int32)), .val (.long (own_vr r1)), .second, .val (.long (d1 &&& (9223372036854775807 : Int64))), .second, .val (.ref b34), .val (.ref b41), .val (.int (own_ha (own_vr r1) (d1 &&& (9223372036854775807 : Int64)))), .unset, .unset, .unset]) rfl ?_
      show Steps p.tables e below (T54.setTop (mkF m 95 #[.val (.long r1), .second, .val (.long d1), .second, .val (.long r2), .second, .val (.long d2), .second, .val (.int fl), .val (.long (own_vr r1)), .second, .val (.long (d1 &&& (9223372036854775807 : Int64))), .second, .val (.int (1 : Int32)), .val (.long (own_vr r1)), .second, .val (.long (d1 &&& (9223372036854775807 : Int64))), .second, .val (.ref b34), .val (.ref b41), .val (.int (own_ha (own_vr r1) (d1 &&& (9223372036854775807 : Int64)))), .unset, .unset, .unset] [])) _
      refine XS.aload X54.here hx rfl (hb hby at_95) rfl rfl ?_
      show Steps p.tables e below (T54.setTop (mkF m 97 #[.val (.long r1), .second, .val (.long d1), .second, .val (.long r2), .second, .val (.long d2), .second, .val (.int fl), .val (.long (own_vr r1)), .second, .val (.long (d1 &&& (9223372036854775807 : Int64))), .second, .val (.int (1 : Int32)), .val (.long (own_vr r1)), .second, .val (.long (d1 &&& (9223372036854775807 : Int64))), .second, .val (.ref b34), .val (.ref b41), .val (.int (own_ha (own_vr r1) (d1 &&& (9223372036854775807 : Int64)))), .unset, .unset, .unset] [(.ref b41)])) _
      refine st55.trans ?_
      show Steps p.tables e below (T55.setTop (mkF m 100 #[.val (.long r1), .second, .val (.long d1), .second, .val (.long r2), .second, .val (.long d2), .second, .val (.int fl), .val (.long (own_vr r1)), .second, .val (.long (d1 &&& (9223372036854775807 : Int64))), .second, .val (.int (1 : Int32)), .val (.long (own_vr r1)), .second, .val (.long (d1 &&& (9223372036854775807 : Int64))), .second, .val (.ref b34), .val (.ref b41), .val (.int (own_ha (own_vr r1) (d1 &&& (9223372036854775807 : Int64)))), .unset, .unset, .unset] [(.int (own_ha (own_vr r1) (d1 &&& (9223372036854775807 : Int64))))])) _
      refine XS.istore X55.here hx rfl (hb hby at_100) rfl (l' := #[.val (.long r1), .second, .val (.long d1), .second, .val (.long r2), .second, .val (.long d2), .second, .val (.int fl), .val (.long (own_vr r1)), .second, .val (.long (d1 &&& (9223372036854775807 : Int64))), .second, .val (.int (1 : Int32)), .val (.long (own_vr r1)), .second, .val (.long (d1 &&& (9223372036854775807 : Int64))), .second, .val (.ref b34), .val (.ref b41), .val (.int (own_ha (own_vr r1) (d1 &&& (9223372036854775807 : Int64)))), .val (.int (own_ha (own_vr r1) (d1 &&& (9223372036854775807 : Int64)))), .unset, .unset]) rfl ?_
      show Steps p.tables e below (T55.setTop (mkF m 102 #[.val (.long r1), .second, .val (.long d1), .second, .val (.long r2), .second, .val (.long d2), .second, .val (.int fl), .val (.long (own_vr r1)), .second, .val (.long (d1 &&& (9223372036854775807 : Int64))), .second, .val (.int (1 : Int32)), .val (.long (own_vr r1)), .second, .val (.long (d1 &&& (9223372036854775807 : Int64))), .second, .val (.ref b34), .val (.ref b41), .val (.int (own_ha (own_vr r1) (d1 &&& (9223372036854775807 : Int64)))), .val (.int (own_ha (own_vr r1) (d1 &&& (9223372036854775807 : Int64)))), .unset, .unset] [])) _
      refine XS.lload X55.here hx rfl (hb hby at_102) rfl ?_
      show Steps p.tables e below (T55.setTop (mkF m 104 #[.val (.long r1), .second, .val (.long d1), .second, .val (.long r2), .second, .val (.long d2), .second, .val (.int fl), .val (.long (own_vr r1)), .second, .val (.long (d1 &&& (9223372036854775807 : Int64))), .second, .val (.int (1 : Int32)), .val (.long (own_vr r1)), .second, .val (.long (d1 &&& (9223372036854775807 : Int64))), .second, .val (.ref b34), .val (.ref b41), .val (.int (own_ha (own_vr r1) (d1 &&& (9223372036854775807 : Int64)))), .val (.int (own_ha (own_vr r1) (d1 &&& (9223372036854775807 : Int64)))), .unset, .unset] [(.long (own_vr r1))])) _
      refine st56 _ ?_
      show Steps p.tables e below (T56.setTop (mkF m 107 #[.val (.long r1), .second, .val (.long d1), .second, .val (.long r2), .second, .val (.long d2), .second, .val (.int fl), .val (.long (own_vr r1)), .second, .val (.long (d1 &&& (9223372036854775807 : Int64))), .second, .val (.int (1 : Int32)), .val (.long (own_vr r1)), .second, .val (.long (d1 &&& (9223372036854775807 : Int64))), .second, .val (.ref b34), .val (.ref b41), .val (.int (own_ha (own_vr r1) (d1 &&& (9223372036854775807 : Int64)))), .val (.int (own_ha (own_vr r1) (d1 &&& (9223372036854775807 : Int64)))), .unset, .unset] [(.int (own_fo (own_vr r1)))])) _
      refine XS.bipush X56.here hx rfl (hb hby at_107) ?_
      show Steps p.tables e below (T56.setTop (mkF m 109 #[.val (.long r1), .second, .val (.long d1), .second, .val (.long r2), .second, .val (.long d2), .second, .val (.int fl), .val (.long (own_vr r1)), .second, .val (.long (d1 &&& (9223372036854775807 : Int64))), .second, .val (.int (1 : Int32)), .val (.long (own_vr r1)), .second, .val (.long (d1 &&& (9223372036854775807 : Int64))), .second, .val (.ref b34), .val (.ref b41), .val (.int (own_ha (own_vr r1) (d1 &&& (9223372036854775807 : Int64)))), .val (.int (own_ha (own_vr r1) (d1 &&& (9223372036854775807 : Int64)))), .unset, .unset] [(.int (31 : Int32)), (.int (own_fo (own_vr r1)))])) _
      refine XS.imul X56.here hx rfl (hb hby at_109) rfl ?_
      show Steps p.tables e below (T56.setTop (mkF m 110 #[.val (.long r1), .second, .val (.long d1), .second, .val (.long r2), .second, .val (.long d2), .second, .val (.int fl), .val (.long (own_vr r1)), .second, .val (.long (d1 &&& (9223372036854775807 : Int64))), .second, .val (.int (1 : Int32)), .val (.long (own_vr r1)), .second, .val (.long (d1 &&& (9223372036854775807 : Int64))), .second, .val (.ref b34), .val (.ref b41), .val (.int (own_ha (own_vr r1) (d1 &&& (9223372036854775807 : Int64)))), .val (.int (own_ha (own_vr r1) (d1 &&& (9223372036854775807 : Int64)))), .unset, .unset] [(.int ((own_fo (own_vr r1)) * (31 : Int32)))])) _
      refine XS.lload X56.here hx rfl (hb hby at_110) rfl ?_
      show Steps p.tables e below (T56.setTop (mkF m 112 #[.val (.long r1), .second, .val (.long d1), .second, .val (.long r2), .second, .val (.long d2), .second, .val (.int fl), .val (.long (own_vr r1)), .second, .val (.long (d1 &&& (9223372036854775807 : Int64))), .second, .val (.int (1 : Int32)), .val (.long (own_vr r1)), .second, .val (.long (d1 &&& (9223372036854775807 : Int64))), .second, .val (.ref b34), .val (.ref b41), .val (.int (own_ha (own_vr r1) (d1 &&& (9223372036854775807 : Int64)))), .val (.int (own_ha (own_vr r1) (d1 &&& (9223372036854775807 : Int64)))), .unset, .unset] [(.long (d1 &&& (9223372036854775807 : Int64))), (.int ((own_fo (own_vr r1)) * (31 : Int32)))])) _
      refine st57 _ ?_
      show Steps p.tables e below (T57.setTop (mkF m 115 #[.val (.long r1), .second, .val (.long d1), .second, .val (.long r2), .second, .val (.long d2), .second, .val (.int fl), .val (.long (own_vr r1)), .second, .val (.long (d1 &&& (9223372036854775807 : Int64))), .second, .val (.int (1 : Int32)), .val (.long (own_vr r1)), .second, .val (.long (d1 &&& (9223372036854775807 : Int64))), .second, .val (.ref b34), .val (.ref b41), .val (.int (own_ha (own_vr r1) (d1 &&& (9223372036854775807 : Int64)))), .val (.int (own_ha (own_vr r1) (d1 &&& (9223372036854775807 : Int64)))), .unset, .unset] [(.int (own_fo (d1 &&& (9223372036854775807 : Int64)))), (.int ((own_fo (own_vr r1)) * (31 : Int32)))])) _
      refine XS.iadd X57.here hx rfl (hb hby at_115) rfl ?_
      show Steps p.tables e below (T57.setTop (mkF m 116 #[.val (.long r1), .second, .val (.long d1), .second, .val (.long r2), .second, .val (.long d2), .second, .val (.int fl), .val (.long (own_vr r1)), .second, .val (.long (d1 &&& (9223372036854775807 : Int64))), .second, .val (.int (1 : Int32)), .val (.long (own_vr r1)), .second, .val (.long (d1 &&& (9223372036854775807 : Int64))), .second, .val (.ref b34), .val (.ref b41), .val (.int (own_ha (own_vr r1) (d1 &&& (9223372036854775807 : Int64)))), .val (.int (own_ha (own_vr r1) (d1 &&& (9223372036854775807 : Int64)))), .unset, .unset] [(.int (((own_fo (own_vr r1)) * (31 : Int32)) + (own_fo (d1 &&& (9223372036854775807 : Int64)))))])) _
      refine XS.istore X57.here hx rfl (hb hby at_116) rfl (l' := #[.val (.long r1), .second, .val (.long d1), .second, .val (.long r2), .second, .val (.long d2), .second, .val (.int fl), .val (.long (own_vr r1)), .second, .val (.long (d1 &&& (9223372036854775807 : Int64))), .second, .val (.int (1 : Int32)), .val (.long (own_vr r1)), .second, .val (.long (d1 &&& (9223372036854775807 : Int64))), .second, .val (.ref b34), .val (.ref b41), .val (.int (own_ha (own_vr r1) (d1 &&& (9223372036854775807 : Int64)))), .val (.int (own_ha (own_vr r1) (d1 &&& (9223372036854775807 : Int64)))), .val (.int (((own_fo (own_vr r1)) * (31 : Int32)) + (own_fo (d1 &&& (9223372036854775807 : Int64))))), .unset]) rfl ?_
      show Steps p.tables e below (T57.setTop (mkF m 118 #[.val (.long r1), .second, .val (.long d1), .second, .val (.long r2), .second, .val (.long d2), .second, .val (.int fl), .val (.long (own_vr r1)), .second, .val (.long (d1 &&& (9223372036854775807 : Int64))), .second, .val (.int (1 : Int32)), .val (.long (own_vr r1)), .second, .val (.long (d1 &&& (9223372036854775807 : Int64))), .second, .val (.ref b34), .val (.ref b41), .val (.int (own_ha (own_vr r1) (d1 &&& (9223372036854775807 : Int64)))), .val (.int (own_ha (own_vr r1) (d1 &&& (9223372036854775807 : Int64)))), .val (.int (((own_fo (own_vr r1)) * (31 : Int32)) + (own_fo (d1 &&& (9223372036854775807 : Int64))))), .unset] [])) _
      refine XS.lload X57.here hx rfl (hb hby at_118) rfl ?_
      show Steps p.tables e below (T57.setTop (mkF m 120 #[.val (.long r1), .second, .val (.long d1), .second, .val (.long r2), .second, .val (.long d2), .second, .val (.int fl), .val (.long (own_vr r1)), .second, .val (.long (d1 &&& (9223372036854775807 : Int64))), .second, .val (.int (1 : Int32)), .val (.long (own_vr r1)), .second, .val (.long (d1 &&& (9223372036854775807 : Int64))), .second, .val (.ref b34), .val (.ref b41), .val (.int (own_ha (own_vr r1) (d1 &&& (9223372036854775807 : Int64)))), .val (.int (own_ha (own_vr r1) (d1 &&& (9223372036854775807 : Int64)))), .val (.int (((own_fo (own_vr r1)) * (31 : Int32)) + (own_fo (d1 &&& (9223372036854775807 : Int64))))), .unset] [(.long (own_vr r1))])) _
      refine st58 _ ?_
      show Steps p.tables e below (T58.setTop (mkF m 123 #[.val (.long r1), .second, .val (.long d1), .second, .val (.long r2), .second, .val (.long d2), .second, .val (.int fl), .val (.long (own_vr r1)), .second, .val (.long (d1 &&& (9223372036854775807 : Int64))), .second, .val (.int (1 : Int32)), .val (.long (own_vr r1)), .second, .val (.long (d1 &&& (9223372036854775807 : Int64))), .second, .val (.ref b34), .val (.ref b41), .val (.int (own_ha (own_vr r1) (d1 &&& (9223372036854775807 : Int64)))), .val (.int (own_ha (own_vr r1) (d1 &&& (9223372036854775807 : Int64)))), .val (.int (((own_fo (own_vr r1)) * (31 : Int32)) + (own_fo (d1 &&& (9223372036854775807 : Int64))))), .unset] [(.int (own_fo (own_vr r1)))])) _
      refine XS.bipush X58.here hx rfl (hb hby at_123) ?_
      show Steps p.tables e below (T58.setTop (mkF m 125 #[.val (.long r1), .second, .val (.long d1), .second, .val (.long r2), .second, .val (.long d2), .second, .val (.int fl), .val (.long (own_vr r1)), .second, .val (.long (d1 &&& (9223372036854775807 : Int64))), .second, .val (.int (1 : Int32)), .val (.long (own_vr r1)), .second, .val (.long (d1 &&& (9223372036854775807 : Int64))), .second, .val (.ref b34), .val (.ref b41), .val (.int (own_ha (own_vr r1) (d1 &&& (9223372036854775807 : Int64)))), .val (.int (own_ha (own_vr r1) (d1 &&& (9223372036854775807 : Int64)))), .val (.int (((own_fo (own_vr r1)) * (31 : Int32)) + (own_fo (d1 &&& (9223372036854775807 : Int64))))), .unset] [(.int (31 : Int32)), (.int (own_fo (own_vr r1)))])) _
      refine XS.imul X58.here hx rfl (hb hby at_125) rfl ?_
      show Steps p.tables e below (T58.setTop (mkF m 126 #[.val (.long r1), .second, .val (.long d1), .second, .val (.long r2), .second, .val (.long d2), .second, .val (.int fl), .val (.long (own_vr r1)), .second, .val (.long (d1 &&& (9223372036854775807 : Int64))), .second, .val (.int (1 : Int32)), .val (.long (own_vr r1)), .second, .val (.long (d1 &&& (9223372036854775807 : Int64))), .second, .val (.ref b34), .val (.ref b41), .val (.int (own_ha (own_vr r1) (d1 &&& (9223372036854775807 : Int64)))), .val (.int (own_ha (own_vr r1) (d1 &&& (9223372036854775807 : Int64)))), .val (.int (((own_fo (own_vr r1)) * (31 : Int32)) + (own_fo (d1 &&& (9223372036854775807 : Int64))))), .unset] [(.int ((own_fo (own_vr r1)) * (31 : Int32)))])) _
      refine XS.lload X58.here hx rfl (hb hby at_126) rfl ?_
      show Steps p.tables e below (T58.setTop (mkF m 128 #[.val (.long r1), .second, .val (.long d1), .second, .val (.long r2), .second, .val (.long d2), .second, .val (.int fl), .val (.long (own_vr r1)), .second, .val (.long (d1 &&& (9223372036854775807 : Int64))), .second, .val (.int (1 : Int32)), .val (.long (own_vr r1)), .second, .val (.long (d1 &&& (9223372036854775807 : Int64))), .second, .val (.ref b34), .val (.ref b41), .val (.int (own_ha (own_vr r1) (d1 &&& (9223372036854775807 : Int64)))), .val (.int (own_ha (own_vr r1) (d1 &&& (9223372036854775807 : Int64)))), .val (.int (((own_fo (own_vr r1)) * (31 : Int32)) + (own_fo (d1 &&& (9223372036854775807 : Int64))))), .unset] [(.long (d1 &&& (9223372036854775807 : Int64))), (.int ((own_fo (own_vr r1)) * (31 : Int32)))])) _
      refine st59 _ ?_
      show Steps p.tables e below (T59.setTop (mkF m 131 #[.val (.long r1), .second, .val (.long d1), .second, .val (.long r2), .second, .val (.long d2), .second, .val (.int fl), .val (.long (own_vr r1)), .second, .val (.long (d1 &&& (9223372036854775807 : Int64))), .second, .val (.int (1 : Int32)), .val (.long (own_vr r1)), .second, .val (.long (d1 &&& (9223372036854775807 : Int64))), .second, .val (.ref b34), .val (.ref b41), .val (.int (own_ha (own_vr r1) (d1 &&& (9223372036854775807 : Int64)))), .val (.int (own_ha (own_vr r1) (d1 &&& (9223372036854775807 : Int64)))), .val (.int (((own_fo (own_vr r1)) * (31 : Int32)) + (own_fo (d1 &&& (9223372036854775807 : Int64))))), .unset] [(.int (own_fo (d1 &&& (9223372036854775807 : Int64)))), (.int ((own_fo (own_vr r1)) * (31 : Int32)))])) _
      refine XS.iadd X59.here hx rfl (hb hby at_131) rfl ?_
      show Steps p.tables e below (T59.setTop (mkF m 132 #[.val (.long r1), .second, .val (.long d1), .second, .val (.long r2), .second, .val (.long d2), .second, .val (.int fl), .val (.long (own_vr r1)), .second, .val (.long (d1 &&& (9223372036854775807 : Int64))), .second, .val (.int (1 : Int32)), .val (.long (own_vr r1)), .second, .val (.long (d1 &&& (9223372036854775807 : Int64))), .second, .val (.ref b34), .val (.ref b41), .val (.int (own_ha (own_vr r1) (d1 &&& (9223372036854775807 : Int64)))), .val (.int (own_ha (own_vr r1) (d1 &&& (9223372036854775807 : Int64)))), .val (.int (((own_fo (own_vr r1)) * (31 : Int32)) + (own_fo (d1 &&& (9223372036854775807 : Int64))))), .unset] [(.int (((own_fo (own_vr r1)) * (31 : Int32)) + (own_fo (d1 &&& (9223372036854775807 : Int64)))))])) _
      refine XS.istore X59.here hx rfl (hb hby at_132) rfl (l' := #[.val (.long r1), .second, .val (.long d1), .second, .val (.long r2), .second, .val (.long d2), .second, .val (.int fl), .val (.long (own_vr r1)), .second, .val (.long (d1 &&& (9223372036854775807 : Int64))), .second, .val (.int (1 : Int32)), .val (.long (own_vr r1)), .second, .val (.long (d1 &&& (9223372036854775807 : Int64))), .second, .val (.ref b34), .val (.ref b41), .val (.int (own_ha (own_vr r1) (d1 &&& (9223372036854775807 : Int64)))), .val (.int (own_ha (own_vr r1) (d1 &&& (9223372036854775807 : Int64)))), .val (.int (((own_fo (own_vr r1)) * (31 : Int32)) + (own_fo (d1 &&& (9223372036854775807 : Int64))))), .val (.int (((own_fo (own_vr r1)) * (31 : Int32)) + (own_fo (d1 &&& (9223372036854775807 : Int64)))))]) rfl ?_
      show Steps p.tables e below (T59.setTop (mkF m 134 #[.val (.long r1), .second, .val (.long d1), .second, .val (.long r2), .second, .val (.long d2), .second, .val (.int fl), .val (.long (own_vr r1)), .second, .val (.long (d1 &&& (9223372036854775807 : Int64))), .second, .val (.int (1 : Int32)), .val (.long (own_vr r1)), .second, .val (.long (d1 &&& (9223372036854775807 : Int64))), .second, .val (.ref b34), .val (.ref b41), .val (.int (own_ha (own_vr r1) (d1 &&& (9223372036854775807 : Int64)))), .val (.int (own_ha (own_vr r1) (d1 &&& (9223372036854775807 : Int64)))), .val (.int (((own_fo (own_vr r1)) * (31 : Int32)) + (own_fo (d1 &&& (9223372036854775807 : Int64))))), .val (.int (((own_fo (own_vr r1)) * (31 : Int32)) + (own_fo (d1 &&& (9223372036854775807 : Int64)))))] [])) _
      refine XS.iload X59.here hx rfl (hb hby at_134) rfl ?_
      show Steps p.tables e below (T59.setTop (mkF m 136 #[.val (.long r1), .second, .val (.long d1), .second, .val (.long r2), .second, .val (.long d2), .second, .val (.int fl), .val (.long (own_vr r1)), .second, .val (.long (d1 &&& (9223372036854775807 : Int64))), .second, .val (.int (1 : Int32)), .val (.long (own_vr r1)), .second, .val (.long (d1 &&& (9223372036854775807 : Int64))), .second, .val (.ref b34), .val (.ref b41), .val (.int (own_ha (own_vr r1) (d1 &&& (9223372036854775807 : Int64)))), .val (.int (own_ha (own_vr r1) (d1 &&& (9223372036854775807 : Int64)))), .val (.int (((own_fo (own_vr r1)) * (31 : Int32)) + (own_fo (d1 &&& (9223372036854775807 : Int64))))), .val (.int (((own_fo (own_vr r1)) * (31 : Int32)) + (own_fo (d1 &&& (9223372036854775807 : Int64)))))] [(.int (own_ha (own_vr r1) (d1 &&& (9223372036854775807 : Int64))))])) _
      refine XS.iload X59.here hx rfl (hb hby at_136) rfl ?_
      show Steps p.tables e below (T59.setTop (mkF m 138 #[.val (.long r1), .second, .val (.long d1), .second, .val (.long r2), .second, .val (.long d2), .second, .val (.int fl), .val (.long (own_vr r1)), .second, .val (.long (d1 &&& (9223372036854775807 : Int64))), .second, .val (.int (1 : Int32)), .val (.long (own_vr r1)), .second, .val (.long (d1 &&& (9223372036854775807 : Int64))), .second, .val (.ref b34), .val (.ref b41), .val (.int (own_ha (own_vr r1) (d1 &&& (9223372036854775807 : Int64)))), .val (.int (own_ha (own_vr r1) (d1 &&& (9223372036854775807 : Int64)))), .val (.int (((own_fo (own_vr r1)) * (31 : Int32)) + (own_fo (d1 &&& (9223372036854775807 : Int64))))), .val (.int (((own_fo (own_vr r1)) * (31 : Int32)) + (own_fo (d1 &&& (9223372036854775807 : Int64)))))] [(.int (((own_fo (own_vr r1)) * (31 : Int32)) + (own_fo (d1 &&& (9223372036854775807 : Int64))))), (.int (own_ha (own_vr r1) (d1 &&& (9223372036854775807 : Int64))))])) _
      refine XS.icmpNo X59.here hx rfl (hb hby at_138) rfl (teq (own_ha_hf (own_vr r1) (d1 &&& (9223372036854775807 : Int64)))).2 ?_
      show Steps p.tables e below (T59.setTop (mkF m 141 #[.val (.long r1), .second, .val (.long d1), .second, .val (.long r2), .second, .val (.long d2), .second, .val (.int fl), .val (.long (own_vr r1)), .second, .val (.long (d1 &&& (9223372036854775807 : Int64))), .second, .val (.int (1 : Int32)), .val (.long (own_vr r1)), .second, .val (.long (d1 &&& (9223372036854775807 : Int64))), .second, .val (.ref b34), .val (.ref b41), .val (.int (own_ha (own_vr r1) (d1 &&& (9223372036854775807 : Int64)))), .val (.int (own_ha (own_vr r1) (d1 &&& (9223372036854775807 : Int64)))), .val (.int (((own_fo (own_vr r1)) * (31 : Int32)) + (own_fo (d1 &&& (9223372036854775807 : Int64))))), .val (.int (((own_fo (own_vr r1)) * (31 : Int32)) + (own_fo (d1 &&& (9223372036854775807 : Int64)))))] [])) _
      refine XS.iload X59.here hx rfl (hb hby at_141) rfl ?_
      show Steps p.tables e below (T59.setTop (mkF m 143 #[.val (.long r1), .second, .val (.long d1), .second, .val (.long r2), .second, .val (.long d2), .second, .val (.int fl), .val (.long (own_vr r1)), .second, .val (.long (d1 &&& (9223372036854775807 : Int64))), .second, .val (.int (1 : Int32)), .val (.long (own_vr r1)), .second, .val (.long (d1 &&& (9223372036854775807 : Int64))), .second, .val (.ref b34), .val (.ref b41), .val (.int (own_ha (own_vr r1) (d1 &&& (9223372036854775807 : Int64)))), .val (.int (own_ha (own_vr r1) (d1 &&& (9223372036854775807 : Int64)))), .val (.int (((own_fo (own_vr r1)) * (31 : Int32)) + (own_fo (d1 &&& (9223372036854775807 : Int64))))), .val (.int (((own_fo (own_vr r1)) * (31 : Int32)) + (own_fo (d1 &&& (9223372036854775807 : Int64)))))] [(.int (own_ha (own_vr r1) (d1 &&& (9223372036854775807 : Int64))))])) _
      refine XS.iload X59.here hx rfl (hb hby at_143) rfl ?_
      show Steps p.tables e below (T59.setTop (mkF m 145 #[.val (.long r1), .second, .val (.long d1), .second, .val (.long r2), .second, .val (.long d2), .second, .val (.int fl), .val (.long (own_vr r1)), .second, .val (.long (d1 &&& (9223372036854775807 : Int64))), .second, .val (.int (1 : Int32)), .val (.long (own_vr r1)), .second, .val (.long (d1 &&& (9223372036854775807 : Int64))), .second, .val (.ref b34), .val (.ref b41), .val (.int (own_ha (own_vr r1) (d1 &&& (9223372036854775807 : Int64)))), .val (.int (own_ha (own_vr r1) (d1 &&& (9223372036854775807 : Int64)))), .val (.int (((own_fo (own_vr r1)) * (31 : Int32)) + (own_fo (d1 &&& (9223372036854775807 : Int64))))), .val (.int (((own_fo (own_vr r1)) * (31 : Int32)) + (own_fo (d1 &&& (9223372036854775807 : Int64)))))] [(.int (((own_fo (own_vr r1)) * (31 : Int32)) + (own_fo (d1 &&& (9223372036854775807 : Int64))))), (.int (own_ha (own_vr r1) (d1 &&& (9223372036854775807 : Int64))))])) _
      refine XS.icmpYes X59.here hx rfl (pc0 := 145) (pc' := 150) rfl (hb hby at_145) rfl (teq (own_ha_hf (own_vr r1) (d1 &&& (9223372036854775807 : Int64)))).1 (by decide) (by decide) ?_
      show Steps p.tables e below (T59.setTop (mkF m 150 #[.val (.long r1), .second, .val (.long d1), .second, .val (.long r2), .second, .val (.long d2), .second, .val (.int fl), .val (.long (own_vr r1)), .second, .val (.long (d1 &&& (9223372036854775807 : Int64))), .second, .val (.int (1 : Int32)), .val (.long (own_vr r1)), .second, .val (.long (d1 &&& (9223372036854775807 : Int64))), .second, .val (.ref b34), .val (.ref b41), .val (.int (own_ha (own_vr r1) (d1 &&& (9223372036854775807 : Int64)))), .val (.int (own_ha (own_vr r1) (d1 &&& (9223372036854775807 : Int64)))), .val (.int (((own_fo (own_vr r1)) * (31 : Int32)) + (own_fo (d1 &&& (9223372036854775807 : Int64))))), .val (.int (((own_fo (own_vr r1)) * (31 : Int32)) + (own_fo (d1 &&& (9223372036854775807 : Int64)))))] [])) _
      refine XS.aload X59.here hx rfl (hb hby at_150) rfl rfl ?_
      show Steps p.tables e below (T59.setTop (mkF m 152 #[.val (.long r1), .second, .val (.long d1), .second, .val (.long r2), .second, .val (.long d2), .second, .val (.int fl), .val (.long (own_vr r1)), .second, .val (.long (d1 &&& (9223372036854775807 : Int64))), .second, .val (.int (1 : Int32)), .val (.long (own_vr r1)), .second, .val (.long (d1 &&& (9223372036854775807 : Int64))), .second, .val (.ref b34), .val (.ref b41), .val (.int (own_ha (own_vr r1) (d1 &&& (9223372036854775807 : Int64)))), .val (.int (own_ha (own_vr r1) (d1 &&& (9223372036854775807 : Int64)))), .val (.int (((own_fo (own_vr r1)) * (31 : Int32)) + (own_fo (d1 &&& (9223372036854775807 : Int64))))), .val (.int (((own_fo (own_vr r1)) * (31 : Int32)) + (own_fo (d1 &&& (9223372036854775807 : Int64)))))] [(.ref b34)])) _
      refine XS.aload X59.here hx rfl (hb hby at_152) rfl rfl ?_
      show Steps p.tables e below (T59.setTop (mkF m 154 #[.val (.long r1), .second, .val (.long d1), .second, .val (.long r2), .second, .val (.long d2), .second, .val (.int fl), .val (.long (own_vr r1)), .second, .val (.long (d1 &&& (9223372036854775807 : Int64))), .second, .val (.int (1 : Int32)), .val (.long (own_vr r1)), .second, .val (.long (d1 &&& (9223372036854775807 : Int64))), .second, .val (.ref b34), .val (.ref b41), .val (.int (own_ha (own_vr r1) (d1 &&& (9223372036854775807 : Int64)))), .val (.int (own_ha (own_vr r1) (d1 &&& (9223372036854775807 : Int64)))), .val (.int (((own_fo (own_vr r1)) * (31 : Int32)) + (own_fo (d1 &&& (9223372036854775807 : Int64))))), .val (.int (((own_fo (own_vr r1)) * (31 : Int32)) + (own_fo (d1 &&& (9223372036854775807 : Int64)))))] [(.ref b41), (.ref b34)])) _
      refine st60.trans ?_
      exact kt
    by_cases hc62 : (own_eq (own_vr r1) (d1 &&& (9223372036854775807 : Int64)) (own_vr r1) (d1 &&& (9223372036854775807 : Int64))) = (0 : Int32)
    · obtain ⟨fs, hr, hrun, hended, hW, hsame⟩ := X60.leave (v := some (.int (1 : Int32))) (fun h => by rw [Bd.returns] at h; cases h)
      refine ⟨_, _, k61 _ ?_, hrun, hended, _, _, rfl, ?_, ⟨_, rfl⟩, hW, hsame.mono (by decide) (by decide)⟩
      · show Steps p.tables e below (T60.setTop (mkF m 157 #[.val (.long r1), .second, .val (.long d1), .second, .val (.long r2), .second, .val (.long d2), .second, .val (.int fl), .val (.long (own_vr r1)), .second, .val (.long (d1 &&& (9223372036854775807 : Int64))), .second, .val (.int (1 : Int32)), .val (.long (own_vr r1)), .second, .val (.long (d1 &&& (9223372036854775807 : Int64))), .second, .val (.ref b34), .val (.ref b41), .val (.int (own_ha (own_vr r1) (d1 &&& (9223372036854775807 : Int64)))), .val (.int (own_ha (own_vr r1) (d1 &&& (9223372036854775807 : Int64)))), .val (.int (((own_fo (own_vr r1)) * (31 : Int32)) + (own_fo (d1 &&& (9223372036854775807 : Int64))))), .val (.int (((own_fo (own_vr r1)) * (31 : Int32)) + (own_fo (d1 &&& (9223372036854775807 : Int64)))))] [(.int (own_eq (own_vr r1) (d1 &&& (9223372036854775807 : Int64)) (own_vr r1) (d1 &&& (9223372036854775807 : Int64))))])) _
        refine XS.ifYes X60.here hx rfl (pc0 := 157) (pc' := 169) rfl (hb hby at_157) rfl ((if0 _ _).trans (teq hc62).1) (by decide) (by decide) ?_
        show Steps p.tables e below (T60.setTop (mkF m 169 #[.val (.long r1), .second, .val (.long d1), .second, .val (.long r2), .second, .val (.long d2), .second, .val (.int fl), .val (.long (own_vr r1)), .second, .val (.long (d1 &&& (9223372036854775807 : Int64))), .second, .val (.int (1 : Int32)), .val (.long (own_vr r1)), .second, .val (.long (d1 &&& (9223372036854775807 : Int64))), .second, .val (.ref b34), .val (.ref b41), .val (.int (own_ha (own_vr r1) (d1 &&& (9223372036854775807 : Int64)))), .val (.int (own_ha (own_vr r1) (d1 &&& (9223372036854775807 : Int64)))), .val (.int (((own_fo (own_vr r1)) * (31 : Int32)) + (own_fo (d1 &&& (9223372036854775807 : Int64))))), .val (.int (((own_fo (own_vr r1)) * (31 : Int32)) + (own_fo (d1 &&& (9223372036854775807 : Int64)))))] [])) _
        refine XS.iconst X60.here hx rfl (hb hby at_169) ?_
        show Steps p.tables e below (T60.setTop (mkF m 170 #[.val (.long r1), .second, .val (.long d1), .second, .val (.long r2), .second, .val (.long d2), .second, .val (.int fl), .val (.long (own_vr r1)), .second, .val (.long (d1 &&& (9223372036854775807 : Int64))), .second, .val (.int (1 : Int32)), .val (.long (own_vr r1)), .second, .val (.long (d1 &&& (9223372036854775807 : Int64))), .second, .val (.ref b34), .val (.ref b41), .val (.int (own_ha (own_vr r1) (d1 &&& (9223372036854775807 : Int64)))), .val (.int (own_ha (own_vr r1) (d1 &&& (9223372036854775807 : Int64)))), .val (.int (((own_fo (own_vr r1)) * (31 : Int32)) + (own_fo (d1 &&& (9223372036854775807 : Int64))))), .val (.int (((own_fo (own_vr r1)) * (31 : Int32)) + (own_fo (d1 &&& (9223372036854775807 : Int64)))))] [(.int (1 : Int32))])) _
        exact retN X60 hx (t := .boolean) Bd.returns (by simp) (hb hby at_170) hr
      · show own_Q0 Z r1 d1 r2 d2 fl h0 n0 _ T60.heap _
        rw [e60]
        exact ⟨rfl, N60⟩
    · have he : own_ha (own_vr r1) (d1 &&& (9223372036854775807 : Int64)) = own_ha (own_vr r1) (d1 &&& (9223372036854775807 : Int64)) := by
        rfl
      obtain ⟨fs, hr, hrun, hended, hW, hsame⟩ := X60.leave (v := some (.int (1 : Int32))) (fun h => by rw [Bd.returns] at h; cases h)
      refine ⟨_, _, k61 _ ?_, hrun, hended, _, _, rfl, ?_, ⟨_, rfl⟩, hW, hsame.mono (by decide) (by decide)⟩
      · show Steps p.tables e below (T60.setTop (mkF m 157 #[.val (.long r1), .second, .val (.long d1), .second, .val (.long r2), .second, .val (.long d2), .second, .val (.int fl), .val (.long (own_vr r1)), .second, .val (.long (d1 &&& (9223372036854775807 : Int64))), .second, .val (.int (1 : Int32)), .val (.long (own_vr r1)), .second, .val (.long (d1 &&& (9223372036854775807 : Int64))), .second, .val (.ref b34), .val (.ref b41), .val (.int (own_ha (own_vr r1) (d1 &&& (9223372036854775807 : Int64)))), .val (.int (own_ha (own_vr r1) (d1 &&& (9223372036854775807 : Int64)))), .val (.int (((own_fo (own_vr r1)) * (31 : Int32)) + (own_fo (d1 &&& (9223372036854775807 : Int64))))), .val (.int (((own_fo (own_vr r1)) * (31 : Int32)) + (own_fo (d1 &&& (9223372036854775807 : Int64)))))] [(.int (own_eq (own_vr r1) (d1 &&& (9223372036854775807 : Int64)) (own_vr r1) (d1 &&& (9223372036854775807 : Int64))))])) _
        refine XS.ifNo X60.here hx rfl (hb hby at_157) rfl ((if0 _ _).trans (feq hc62).1) ?_
        show Steps p.tables e below (T60.setTop (mkF m 160 #[.val (.long r1), .second, .val (.long d1), .second, .val (.long r2), .second, .val (.long d2), .second, .val (.int fl), .val (.long (own_vr r1)), .second, .val (.long (d1 &&& (9223372036854775807 : Int64))), .second, .val (.int (1 : Int32)), .val (.long (own_vr r1)), .second, .val (.long (d1 &&& (9223372036854775807 : Int64))), .second, .val (.ref b34), .val (.ref b41), .val (.int (own_ha (own_vr r1) (d1 &&& (9223372036854775807 : Int64)))), .val (.int (own_ha (own_vr r1) (d1 &&& (9223372036854775807 : Int64)))), .val (.int (((own_fo (own_vr r1)) * (31 : Int32)) + (own_fo (d1 &&& (9223372036854775807 : Int64))))), .val (.int (((own_fo (own_vr r1)) * (31 : Int32)) + (own_fo (d1 &&& (9223372036854775807 : Int64)))))] [])) _
        refine XS.iload X60.here hx rfl (hb hby at_160) rfl ?_
        show Steps p.tables e below (T60.setTop (mkF m 162 #[.val (.long r1), .second, .val (.long d1), .second, .val (.long r2), .second, .val (.long d2), .second, .val (.int fl), .val (.long (own_vr r1)), .second, .val (.long (d1 &&& (9223372036854775807 : Int64))), .second, .val (.int (1 : Int32)), .val (.long (own_vr r1)), .second, .val (.long (d1 &&& (9223372036854775807 : Int64))), .second, .val (.ref b34), .val (.ref b41), .val (.int (own_ha (own_vr r1) (d1 &&& (9223372036854775807 : Int64)))), .val (.int (own_ha (own_vr r1) (d1 &&& (9223372036854775807 : Int64)))), .val (.int (((own_fo (own_vr r1)) * (31 : Int32)) + (own_fo (d1 &&& (9223372036854775807 : Int64))))), .val (.int (((own_fo (own_vr r1)) * (31 : Int32)) + (own_fo (d1 &&& (9223372036854775807 : Int64)))))] [(.int (own_ha (own_vr r1) (d1 &&& (9223372036854775807 : Int64))))])) _
        refine XS.iload X60.here hx rfl (hb hby at_162) rfl ?_
        show Steps p.tables e below (T60.setTop (mkF m 164 #[.val (.long r1), .second, .val (.long d1), .second, .val (.long r2), .second, .val (.long d2), .second, .val (.int fl), .val (.long (own_vr r1)), .second, .val (.long (d1 &&& (9223372036854775807 : Int64))), .second, .val (.int (1 : Int32)), .val (.long (own_vr r1)), .second, .val (.long (d1 &&& (9223372036854775807 : Int64))), .second, .val (.ref b34), .val (.ref b41), .val (.int (own_ha (own_vr r1) (d1 &&& (9223372036854775807 : Int64)))), .val (.int (own_ha (own_vr r1) (d1 &&& (9223372036854775807 : Int64)))), .val (.int (((own_fo (own_vr r1)) * (31 : Int32)) + (own_fo (d1 &&& (9223372036854775807 : Int64))))), .val (.int (((own_fo (own_vr r1)) * (31 : Int32)) + (own_fo (d1 &&& (9223372036854775807 : Int64)))))] [(.int (own_ha (own_vr r1) (d1 &&& (9223372036854775807 : Int64)))), (.int (own_ha (own_vr r1) (d1 &&& (9223372036854775807 : Int64))))])) _
        refine XS.icmpYes X60.here hx rfl (pc0 := 164) (pc' := 169) rfl (hb hby at_164) rfl (teq he).1 (by decide) (by decide) ?_
        show Steps p.tables e below (T60.setTop (mkF m 169 #[.val (.long r1), .second, .val (.long d1), .second, .val (.long r2), .second, .val (.long d2), .second, .val (.int fl), .val (.long (own_vr r1)), .second, .val (.long (d1 &&& (9223372036854775807 : Int64))), .second, .val (.int (1 : Int32)), .val (.long (own_vr r1)), .second, .val (.long (d1 &&& (9223372036854775807 : Int64))), .second, .val (.ref b34), .val (.ref b41), .val (.int (own_ha (own_vr r1) (d1 &&& (9223372036854775807 : Int64)))), .val (.int (own_ha (own_vr r1) (d1 &&& (9223372036854775807 : Int64)))), .val (.int (((own_fo (own_vr r1)) * (31 : Int32)) + (own_fo (d1 &&& (9223372036854775807 : Int64))))), .val (.int (((own_fo (own_vr r1)) * (31 : Int32)) + (own_fo (d1 &&& (9223372036854775807 : Int64)))))] [])) _
        refine XS.iconst X60.here hx rfl (hb hby at_169) ?_
        show Steps p.tables e below (T60.setTop (mkF m 170 #[.val (.long r1), .second, .val (.long d1), .second, .val (.long r2), .second, .val (.long d2), .second, .val (.int fl), .val (.long (own_vr r1)), .second, .val (.long (d1 &&& (9223372036854775807 : Int64))), .second, .val (.int (1 : Int32)), .val (.long (own_vr r1)), .second, .val (.long (d1 &&& (9223372036854775807 : Int64))), .second, .val (.ref b34), .val (.ref b41), .val (.int (own_ha (own_vr r1) (d1 &&& (9223372036854775807 : Int64)))), .val (.int (own_ha (own_vr r1) (d1 &&& (9223372036854775807 : Int64)))), .val (.int (((own_fo (own_vr r1)) * (31 : Int32)) + (own_fo (d1 &&& (9223372036854775807 : Int64))))), .val (.int (((own_fo (own_vr r1)) * (31 : Int32)) + (own_fo (d1 &&& (9223372036854775807 : Int64)))))] [(.int (1 : Int32))])) _
        exact retN X60 hx (t := .boolean) Bd.returns (by simp) (hb hby at_170) hr
      · show own_Q0 Z r1 d1 r2 d2 fl h0 n0 _ T60.heap _
        rw [e60]
        exact ⟨rfl, N60⟩
set_option maxRecDepth 65536 in
set_option maxHeartbeats 40000000 in
theorem comes_1 {Post : Tables → Env → Array Value → State → Outcome → State → Prop} (hpost : ∀ tb e args s v u, (limb_1_1.after args s (.returned v) u = true ∧ limb_1_2.after args s (.returned v) u = true ∧ True) → FrameEnd s (.returned v) u (Jvm.fieldLocs frame_1_writes args s ++ Jvm.arrayLocs frame_1_arrays args s ++ Jvm.staticLocs frame_1_statics s) 16 128 → Post tb e args s (.returned v) u) :
    ArmFor flags0 classFile x code maxLocals ret World_1 tables_1 room_1 Calls_1 rest_1 Pre_1 Post := by
  intro l hfl _ _ p e ha hc hk s m args below hf hA hF happ hP
  obtain ⟨hcalls, hrest, hpre⟩ := hP
  obtain ⟨-, -, -, hnamed, -, -, -, hat⟩ := (Spec.applies_iff hf).mp happ
  obtain ⟨hg, hn⟩ := and_e (Cond.before_iff.mp (show (Jvm.Cond.and given_1 narrow_1).before args s = true from hpre))
  obtain ⟨hcount, hg0⟩ := and_e hg
  obtain ⟨hv0, hg1⟩ := and_e hg0
  obtain ⟨hv1, hg2⟩ := and_e hg1
  obtain ⟨hv2, hg3⟩ := and_e hg2
  obtain ⟨hv3, hg4⟩ := and_e hg3
  have hv4 := hg4
  obtain ⟨w0, w1, w2, w3, w4, rfl⟩ : ∃ w0 w1 w2 w3 w4 : Value, args = #[w0, w1, w2, w3, w4] := by
    have hs : args.size = 5 := by simpa [Cond.value, given_1] using hcount
    obtain ⟨L⟩ := args
    match L, hs with
    | [w0, w1, w2, w3, w4], _ => exact ⟨w0, w1, w2, w3, w4, rfl⟩
  have hw := fun d (hd : d ∈ tables_1) => atoms_spec (ws := Jvm.Cond.code x code maxLocals ret :: tables_1) hat d (List.mem_cons_of_mem _ hd)
  have hfit : Fit s := fun {y c} hc i hi => by
    obtain ⟨ha, rfl⟩ := Array.getElem?_eq_some_iff.mp hc
    have q := List.all_eq_true.mp ((Array.all_eq_true_iff_forall_mem.mp hF) _ (Array.getElem_mem ha)) i (List.mem_range.mpr hi)
    simpa [Array.getElem?_eq_getElem hi] using q
  obtain ⟨i0, ei0⟩ := isL_v hv0
  obtain rfl : w0 = (.long i0) := Option.some.inj ei0
  obtain ⟨i1, ei1⟩ := isL_v hv1
  obtain rfl : w1 = (.long i1) := Option.some.inj ei1
  obtain ⟨i2, ei2⟩ := isL_v hv2
  obtain rfl : w2 = (.long i2) := Option.some.inj ei2
  obtain ⟨i3, ei3⟩ := isL_v hv3
  obtain rfl : w3 = (.long i3) := Option.some.inj ei3
  obtain ⟨i4, ei4⟩ := is_v hv4
  obtain rfl : w4 = (.int i4) := Option.some.inj ei4
  obtain ⟨n, o, h1, h2, h3, _, L, rfl, ⟨rfl, N⟩, hq⟩ := rm0 l s _ hw tables_1 i0 i1 i2 i3 i4 s.heap s.heap.size (Nat.le_refl _)  p e ha hc hk s m _ below hf ((Spec.applies_iff_loose hf).mp happ).1 ⟨rfl, State.Warmed39.refl s, rfl⟩ trivial
  refine ⟨n, _, h1, h2, h3, hpost _ _ _ _ _ _ ⟨Cond.after_iff.mpr rfl, Cond.after_iff.mpr (eq_i res_at (Term.int_eval (1)) rfl), trivial⟩ ⟨hq.1, hq.2.1, (hq.2.2.sift fun y hy => Or.inr (N y hy)).mono (by decide) (by decide)⟩⟩
theorem main_1_1 : Claimed_1_1 := comes_1 fun _ _ _ _ _ _ h hF => ⟨h.1, hF⟩
theorem main_1_2 : Claimed_1_2 := comes_1 fun _ _ _ _ _ _ h hF => ⟨h.2.1, hF⟩
end Jvm.Pilot.@@N@@
namespace Jvm.Pilot.@@N@@
open Jvm Jvm.ClassFile Sem Op Lib Jvm.Free Jvm.Stand Jvm.Pilot.@@N@@.Jvm.D
/-! MADE BY PROGRAM (witnessworld.py) out of the Statement's table words and the real class files: 14 classes; the members and pool entries that the words name. The judged class is class 1, her method 3. -/
namespace start1
open Jvm.ClassFile
def u (s : String) : CpInfo := .utf8 (stringToUtf16 s)
/-- a pool by its gaps: so many unusable entries, then the entry; so many at the end -/
def gap : Nat → List CpInfo → List CpInfo
  | 0, r => r
  | n + 1, r => .unusable :: gap n r
def poolList (es : List (Nat × CpInfo)) (last : Nat) : List CpInfo := es.foldr (fun e r => gap e.1 (e.2 :: r)) (gap last [])
def pool (es : List (Nat × CpInfo)) (last : Nat) : Array CpInfo := ⟨poolList es last⟩
def fileOf (pool : Array CpInfo) (this : Nat) (attrs : Array Attribute := #[]) (ms : Array MethodInfo := #[]) (fl : Nat := 33) (sup : Nat := 0) (ifs : Array Nat := #[]) (fds : Array FieldInfo := #[]) : ClassFile where
  minorVersion := 0
  majorVersion := 65
  constantPool := pool
  accessFlags := fl
  thisClass := this
  superClass := sup
  interfaces := ifs
  fields := fds
  methods := ms
  attributes := attrs
def plain (name : String) (sup : Option ClassId) : Class where
  name := name
  kind := .ordinary
  loader := none
  accessFlags := 33
  super := sup
  interfaces := #[]
  cf := none
  fields := #[]
  methods := #[]
  instanceTypes := #[]
  staticTypes := #[]
  resolved := #[]
  callSites := []
  init := .initialized
  statics := none
  mirror := none

def pool0 : Array CpInfo := pool [(5, u "<init>"), (0, u "()V"), (1, .class_ 10), (1, u "java/lang/Object")] 113

def k0c0 : Code := { maxStack := 0, maxLocals := 1, code := object_method_1_code, exceptionTable := #[], attributes := #[] }
def k0m0 : Method := { name := "<init>", desc := "()V", sig := { parameters := [], returnType := none }, accessFlags := 1, code := some k0c0 }
/-- java/lang/Object -/
def k0 : Class := { plain "java/lang/Object" none with
  accessFlags := 33
  interfaces := #[]
  cf := some (fileOf pool0 8 #[] #[{ accessFlags := 1, nameIndex := 5, descriptorIndex := 6, attributes := #[] }] 33 0 #[] #[])
  fields := #[]
  methods := #[k0m0]
  instanceTypes := #[]
  staticTypes := #[]
  resolved := Array.replicate 124 none
  statics := none }

def pool1 : Array CpInfo := pool [(2, .class_ 4), (1, u "java/lang/Object"), (0, u "<init>"), (0, u "()V"), (2, .long 9223372036854775807), (1, .methodref 12 13), (0, .class_ 14), (0, .nameAndType 15 16), (0, u "com/example/tollwright/tollwright/planner/ContractHashCodePinLaw"), (0, u "validRate"), (0, u "(J)J"), (0, .class_ 18), (0, u "com/example/tollwright/tollwright/planner/Contract"), (0, .methodref 17 20), (0, .nameAndType 5 21), (0, u "(JJ)V"), (0, .methodref 17 23), (0, .nameAndType 24 25), (0, u "hashCode"), (0, u "()I"), (0, .methodref 12 27), (0, .nameAndType 28 29), (0, u "fold"), (0, u "(J)I"), (0, .methodref 17 31), (0, .nameAndType 32 33), (0, u "equals"), (0, u "(Ljava/lang/Object;)Z"), (3, u "law"), (0, u "(JJJJI)Z")] 2

def k1m0 : Method := { name := "<init>", desc := "()V", sig := { parameters := [], returnType := none }, accessFlags := 1, code := none }
def k1c1 : Code := { maxStack := 4, maxLocals := 2, code := method_2_code, exceptionTable := #[], attributes := #[] }
def k1m1 : Method := { name := "fold", desc := "(J)I", sig := { parameters := [.long], returnType := some .int }, accessFlags := 10, code := some k1c1 }
def k1c2 : Code := { maxStack := 4, maxLocals := 4, code := method_3_code, exceptionTable := #[], attributes := #[] }
def k1m2 : Method := { name := "validRate", desc := "(J)J", sig := { parameters := [.long], returnType := some .long }, accessFlags := 10, code := some k1c2 }
def k1c3 : Code := { maxStack := 6, maxLocals := 24, code := code, exceptionTable := #[], attributes := #[] }
def k1m3 : Method := { name := "law", desc := "(JJJJI)Z", sig := { parameters := [.long, .long, .long, .long, .int], returnType := some .boolean }, accessFlags := 9, code := some k1c3 }
/-- com/example/tollwright/tollwright/planner/ContractHashCodePinLaw -/
def k1 : Class := { plain "com/example/tollwright/tollwright/planner/ContractHashCodePinLaw" (some 0) with
  accessFlags := 49
  interfaces := #[]
  cf := some (fileOf pool1 12 #[] #[{ accessFlags := 1, nameIndex := 5, descriptorIndex := 6, attributes := #[] }, { accessFlags := 10, nameIndex := 28, descriptorIndex := 29, attributes := #[] }, { accessFlags := 10, nameIndex := 15, descriptorIndex := 16, attributes := #[] }, { accessFlags := 9, nameIndex := 37, descriptorIndex := 38, attributes := #[] }] 49 2 #[] #[])
  fields := #[]
  methods := #[k1m0, k1m1, k1m2, k1m3]
  instanceTypes := #[]
  staticTypes := #[]
  resolved := Array.replicate 41 none
  statics := none }

def pool2 : Array CpInfo := pool [(1, .methodref 2 3), (0, .class_ 4), (0, .nameAndType 5 6), (0, u "java/lang/Object"), (0, u "<init>"), (0, u "()V"), (10, .fieldref 18 19), (0, .class_ 20), (0, .nameAndType 21 22), (0, u "com/example/tollwright/tollwright/planner/Contract"), (0, u "rate"), (0, u "J"), (0, .fieldref 18 24), (0, .nameAndType 25 22), (0, u "depth"), (0, .methodref 27 28), (0, .class_ 29), (0, .nameAndType 30 31), (0, u "java/lang/Long"), (0, u "hashCode"), (0, u "(J)I"), (15, u "(JJ)V"), (4, u "equals"), (0, u "(Ljava/lang/Object;)Z"), (0, u "()I")] 23

def k2c0 : Code := { maxStack := 4, maxLocals := 5, code := prog_27_method_1_code, exceptionTable := #[], attributes := #[] }
def k2m0 : Method := { name := "<init>", desc := "(JJ)V", sig := { parameters := [.long, .long], returnType := none }, accessFlags := 1, code := some k2c0 }
def k2c1 : Code := { maxStack := 4, maxLocals := 2, code := prog_27_method_4_code, exceptionTable := #[], attributes := #[] }
def k2m1 : Method := { name := "equals", desc := "(Ljava/lang/Object;)Z", sig := { parameters := [(.object "java/lang/Object")], returnType := some .boolean }, accessFlags := 1, code := some k2c1 }
def k2c2 : Code := { maxStack := 3, maxLocals := 1, code := prog_27_method_5_code, exceptionTable := #[], attributes := #[] }
def k2m2 : Method := { name := "hashCode", desc := "()I", sig := { parameters := [], returnType := some .int }, accessFlags := 1, code := some k2c2 }
/-- com/example/tollwright/tollwright/planner/Contract -/
def k2 : Class := { plain "com/example/tollwright/tollwright/planner/Contract" (some 0) with
  accessFlags := 49
  interfaces := #[]
  cf := some (fileOf pool2 18 #[] #[{ accessFlags := 1, nameIndex := 5, descriptorIndex := 47, attributes := #[] }, { accessFlags := 1, nameIndex := 52, descriptorIndex := 53, attributes := #[] }, { accessFlags := 1, nameIndex := 30, descriptorIndex := 54, attributes := #[] }] 49 2 #[] #[{ accessFlags := 18, nameIndex := 21, descriptorIndex := 22, attributes := #[] }, { accessFlags := 18, nameIndex := 25, descriptorIndex := 22, attributes := #[] }])
  fields := #[{ name := "rate", type := .long, accessFlags := 18, slot := 0, constantValue := 0 }, { name := "depth", type := .long, accessFlags := 18, slot := 1, constantValue := 0 }]
  methods := #[k2m0, k2m1, k2m2]
  instanceTypes := #[.long, .long]
  staticTypes := #[]
  resolved := Array.replicate 78 none
  statics := none }

def pool3 : Array CpInfo := pool [(1, .class_ 2), (0, u "java/io/Serializable"), (0, .class_ 4), (0, u "java/lang/Object")] 2

/-- java/io/Serializable -/
def k3 : Class := { plain "java/io/Serializable" (some 0) with
  accessFlags := 1537
  interfaces := #[]
  cf := some (fileOf pool3 1 #[] #[] 1537 3 #[] #[])
  fields := #[]
  methods := #[]
  instanceTypes := #[]
  staticTypes := #[]
  resolved := Array.replicate 7 none
  statics := none }

def pool4 : Array CpInfo := pool [(2, .class_ 4), (1, u "java/lang/Object"), (0, u "<init>"), (0, u "()V"), (1, .class_ 10), (1, u "java/lang/Number"), (2, .class_ 14), (0, u "java/io/Serializable"), (0, u "serialVersionUID"), (0, u "J")] 20

def k4m0 : Method := { name := "<init>", desc := "()V", sig := { parameters := [], returnType := none }, accessFlags := 1, code := none }
/-- java/lang/Number -/
def k4 : Class := { plain "java/lang/Number" (some 0) with
  accessFlags := 1057
  interfaces := #[3]
  cf := some (fileOf pool4 8 #[] #[{ accessFlags := 1, nameIndex := 5, descriptorIndex := 6, attributes := #[] }] 1057 2 #[13] #[{ accessFlags := 26, nameIndex := 15, descriptorIndex := 16, attributes := #[] }])
  fields := #[{ name := "serialVersionUID", type := .long, accessFlags := 26, slot := 0, constantValue := 0 }]
  methods := #[k4m0]
  instanceTypes := #[]
  staticTypes := #[.long]
  resolved := Array.replicate 37 none
  statics := none }

def pool5 : Array CpInfo := pool [(1, .class_ 2), (0, u "java/lang/Comparable"), (0, .class_ 4), (0, u "java/lang/Object")] 7

/-- java/lang/Comparable -/
def k5 : Class := { plain "java/lang/Comparable" (some 0) with
  accessFlags := 1537
  interfaces := #[]
  cf := some (fileOf pool5 1 #[] #[] 1537 3 #[] #[])
  fields := #[]
  methods := #[]
  instanceTypes := #[]
  staticTypes := #[]
  resolved := Array.replicate 12 none
  statics := none }

def pool6 : Array CpInfo := pool [(1, .class_ 2), (0, u "java/lang/constant/Constable"), (0, .class_ 4), (0, u "java/lang/Object")] 6

/-- java/lang/constant/Constable -/
def k6 : Class := { plain "java/lang/constant/Constable" (some 0) with
  accessFlags := 1537
  interfaces := #[]
  cf := some (fileOf pool6 1 #[] #[] 1537 3 #[] #[])
  fields := #[]
  methods := #[]
  instanceTypes := #[]
  staticTypes := #[]
  resolved := Array.replicate 11 none
  statics := none }

def pool7 : Array CpInfo := pool [(1, .class_ 2), (0, u "java/lang/constant/ConstantDesc"), (0, .class_ 4), (0, u "java/lang/Object")] 32

/-- java/lang/constant/ConstantDesc -/
def k7 : Class := { plain "java/lang/constant/ConstantDesc" (some 0) with
  accessFlags := 1537
  interfaces := #[]
  cf := some (fileOf pool7 1 #[] #[] 1537 3 #[] #[])
  fields := #[]
  methods := #[]
  instanceTypes := #[]
  staticTypes := #[]
  resolved := Array.replicate 37 none
  statics := none }

def pool8 : Array CpInfo := pool [(1, .class_ 2), (0, u "java/lang/Long"), (98, u "(J)I"), (133, .class_ 237), (1, u "java/lang/Long$LongCache"), (33, .class_ 272), (0, u "java/lang/Number"), (2, u "value"), (0, u "J"), (2, u "hashCode"), (81, u "TYPE"), (0, u "Ljava/lang/Class;"), (0, .class_ 364), (0, u "java/lang/Comparable"), (0, .class_ 366), (0, u "java/lang/constant/Constable"), (0, .class_ 368), (0, u "java/lang/constant/ConstantDesc"), (0, u "MIN_VALUE"), (1, u "MAX_VALUE"), (4, u "SIZE"), (0, u "I"), (1, u "BYTES"), (1, u "serialVersionUID")] 142

def k8c0 : Code := { maxStack := 5, maxLocals := 2, code := jdk_35_method_36_code, exceptionTable := #[], attributes := #[] }
def k8m0 : Method := { name := "hashCode", desc := "(J)I", sig := { parameters := [.long], returnType := some .int }, accessFlags := 9, code := some k8c0 }
/-- java/lang/Long -/
def k8 : Class := { plain "java/lang/Long" (some 4) with
  accessFlags := 49
  interfaces := #[5, 6, 7]
  cf := some (fileOf pool8 1 #[.nestMembers #[235]] #[{ accessFlags := 9, nameIndex := 279, descriptorIndex := 101, attributes := #[] }] 49 271 #[363, 365, 367] #[{ accessFlags := 25, nameIndex := 369, descriptorIndex := 276, attributes := #[] }, { accessFlags := 25, nameIndex := 371, descriptorIndex := 276, attributes := #[] }, { accessFlags := 25, nameIndex := 361, descriptorIndex := 362, attributes := #[] }, { accessFlags := 18, nameIndex := 275, descriptorIndex := 276, attributes := #[] }, { accessFlags := 25, nameIndex := 376, descriptorIndex := 377, attributes := #[] }, { accessFlags := 25, nameIndex := 379, descriptorIndex := 377, attributes := #[] }, { accessFlags := 26, nameIndex := 381, descriptorIndex := 276, attributes := #[] }])
  fields := #[{ name := "MIN_VALUE", type := .long, accessFlags := 25, slot := 0, constantValue := 0 }, { name := "MAX_VALUE", type := .long, accessFlags := 25, slot := 1, constantValue := 0 }, { name := "TYPE", type := (.object "java/lang/Class"), accessFlags := 25, slot := 2, constantValue := 0 }, { name := "value", type := .long, accessFlags := 18, slot := 0, constantValue := 0 }, { name := "SIZE", type := .int, accessFlags := 25, slot := 3, constantValue := 0 }, { name := "BYTES", type := .int, accessFlags := 25, slot := 4, constantValue := 0 }, { name := "serialVersionUID", type := .long, accessFlags := 26, slot := 5, constantValue := 0 }]
  methods := #[k8m0]
  instanceTypes := #[.long]
  staticTypes := #[.long, .long, (.object "java/lang/Class"), .int, .int, .long]
  resolved := Array.replicate 524 none
  statics := none }

def pool9 : Array CpInfo := pool [(1, u "java/lang/Cloneable"), (0, .class_ 1), (0, u "java/lang/Object"), (0, .class_ 3)] 3

/-- java/lang/Cloneable -/
def k9 : Class := { plain "java/lang/Cloneable" (some 0) with
  accessFlags := 1537
  interfaces := #[]
  cf := some (fileOf pool9 2 #[] #[] 1537 4 #[] #[])
  fields := #[]
  methods := #[]
  instanceTypes := #[]
  staticTypes := #[]
  resolved := Array.replicate 8 none
  statics := none }

/-- the primitive byte -/
def k10 : Class := { plain "byte" none with kind := .primitive 'B', accessFlags := 0x411 }
/-- [B -/
def k11 : Class := { plain "[B" (some 0) with kind := .array 10 .byte, interfaces := #[9, 3], accessFlags := 1041 }

/-- the primitive int -/
def k12 : Class := { plain "int" none with kind := .primitive 'I', accessFlags := 0x411 }
/-- [I -/
def k13 : Class := { plain "[I" (some 0) with kind := .array 12 .int, interfaces := #[9, 3], accessFlags := 1041 }

def heap : Heap := #[]
def classes : Array Class := #[k0, k1, k2, k3, k4, k5, k6, k7, k8, k9, k10, k11, k12, k13]
def interned : List (Array UInt16 × Addr) := []
def slotsUsed : Nat := 0
def theMethod : MethodId := ⟨1, 3⟩
def args0 : Array Value := #[.long 5, .long 7, .long 9, .long 11, .int 1]
def aboutOver (below : List Frame) : State where
  vm := { classes := classes, interned := interned.toArray }
  heap := heap
  slotsUsed := slotsUsed
  threads := #[{ frames := .invoking theMethod args0 :: below }]
def below0 : List Frame := [.native { method := ⟨0, 0⟩, args := #[] }]
def about1 : State := aboutOver below0
def p0 : Program := .bare "" "" ""
def e0 : Env := launch0.env 0 0 0
theorem w_frames : about1.frames = Frame.invoking theMethod args0 :: below0 := rfl
set_option maxRecDepth 65536 in
theorem w_args : argsFit about1.vm theMethod args0 = true := by decide +kernel
set_option maxRecDepth 65536 in
theorem w_heap : heapFits about1 = true := by decide +kernel
set_option maxRecDepth 65536 in
theorem w_runnable : about1.curStatus? = some .runnable := by decide +kernel
set_option maxRecDepth 65536 in
theorem w_alone : about1.alone = true := by decide +kernel
set_option maxRecDepth 65536 in
theorem w_named : about1.methodNamed? x = some theMethod := by decide +kernel
set_option maxRecDepth 65536 in
theorem w_hears : about1.hears theMethod below0 = true := by decide +kernel
set_option maxRecDepth 65536 in
theorem w_ripe : about1.ripe theMethod args0 below0 = true := by decide +kernel
theorem w_running : about1.status = .running := rfl
set_option maxRecDepth 65536 in
theorem w_room : about1.hasRoom e0.platform room_1 = true :=
  launch0.hasRoom_least _ room_1 (by decide +kernel) (by decide +kernel) (by decide +kernel) (by decide +kernel) (by decide +kernel) (by decide +kernel)
theorem allAtoms_all (ts : List Jvm.Cond) (a : Array Jvm.Value) (st : Jvm.State) : (allAtoms ts).before a st = ts.all (fun c => c.before a st) := by
  induction ts with
  | nil => rfl
  | cons c t ih =>
    show (Jvm.Cond.and c (allAtoms t)).before a st = _
    rw [Jvm.Cond.before_and, ih, List.all_cons]
def words1 : List Jvm.Cond := Jvm.Cond.code x code maxLocals ret :: tables_1
/-- a 'code' word, met by the world's own term for the bytes: nothing is compared byte by byte -/
theorem code_word {y : MethodName} {bytes : ByteArray} {mx : Nat} {rt : Option FieldType} {a : Array Value} {s : State} {m : MethodId} {meth : Method} {c : Code} (h1 : s.methodNamed? y = some m) (h2 : s.vm.method? m = some meth) (h3 : meth.code = some c) (h4 : c.code = bytes)
    (h5 : (c.maxLocals == mx && c.exceptionTable.isEmpty && decide (c.maxStack ≤ mostOperands) && decide (meth.sig.returnType = rt) && !meth.locks && decide (parseMethodDescriptor y.desc = some meth.sig)) = true) : (Jvm.Cond.code y bytes mx rt).before a s = true := by
  simp only [Bool.and_eq_true, beq_iff_eq, Bool.not_eq_true', decide_eq_true_eq] at h5
  obtain ⟨⟨⟨⟨⟨g1, g2⟩, g3⟩, g4⟩, g5⟩, g6⟩ := h5
  simp [Cond.before, Cond.holds, Cond.value, h1, h2, h3, h4, g1, g2, g3, g4, g5, g6]
def isCode : Jvm.Cond → Bool
  | .code _ _ _ _ => true
  | _ => false
theorem all_split {L : List Jvm.Cond} {P : Jvm.Cond → Bool} (h1 : L.all (fun c => isCode c || P c) = true) (h2 : ∀ c ∈ L.filter isCode, P c = true) : L.all P = true := by
  refine List.all_eq_true.mpr fun c hc => ?_
  have h := List.all_eq_true.mp h1 c hc
  rcases Bool.eq_false_or_eq_true (isCode c) with hi | hi
  · exact h2 c (List.mem_filter.mpr ⟨hc, hi⟩)
  · simpa [hi] using h
set_option maxRecDepth 65536 in
theorem w_c0 : (Jvm.Cond.code x code maxLocals ret).before args0 about1 = true := code_word (m := ⟨1, 3⟩) (meth := k1m3) (c := k1c3) (by decide +kernel) rfl rfl rfl (by decide +kernel)
set_option maxRecDepth 65536 in
theorem w_c1 : (Jvm.Cond.code ({ cls := "com/example/tollwright/tollwright/planner/ContractHashCodePinLaw", name := "validRate", desc := "(J)J" } : Jvm.MethodName) method_3_code (4 : Nat) (Option.some Jvm.ClassFile.FieldType.long)).before args0 about1 = true := code_word (m := ⟨1, 2⟩) (meth := k1m2) (c := k1c2) (by decide +kernel) rfl rfl rfl (by decide +kernel)
set_option maxRecDepth 65536 in
theorem w_c2 : (Jvm.Cond.code ({ cls := "com/example/tollwright/tollwright/planner/Contract", name := "<init>", desc := "(JJ)V" } : Jvm.MethodName) prog_27_method_1_code (5 : Nat) (Option.none : Option Jvm.ClassFile.FieldType)).before args0 about1 = true := code_word (m := ⟨2, 0⟩) (meth := k2m0) (c := k2c0) (by decide +kernel) rfl rfl rfl (by decide +kernel)
set_option maxRecDepth 65536 in
theorem w_c3 : (Jvm.Cond.code ({ cls := "java/lang/Object", name := "<init>", desc := "()V" } : Jvm.MethodName) object_method_1_code (1 : Nat) (Option.none : Option Jvm.ClassFile.FieldType)).before args0 about1 = true := code_word (m := ⟨0, 0⟩) (meth := k0m0) (c := k0c0) (by decide +kernel) rfl rfl rfl (by decide +kernel)
set_option maxRecDepth 65536 in
theorem w_c4 : (Jvm.Cond.code ({ cls := "com/example/tollwright/tollwright/planner/Contract", name := "hashCode", desc := "()I" } : Jvm.MethodName) prog_27_method_5_code (1 : Nat) (Option.some Jvm.ClassFile.FieldType.int)).before args0 about1 = true := code_word (m := ⟨2, 2⟩) (meth := k2m2) (c := k2c2) (by decide +kernel) rfl rfl rfl (by decide +kernel)
set_option maxRecDepth 65536 in
theorem w_c5 : (Jvm.Cond.code ({ cls := "java/lang/Long", name := "hashCode", desc := "(J)I" } : Jvm.MethodName) jdk_35_method_36_code (2 : Nat) (Option.some Jvm.ClassFile.FieldType.int)).before args0 about1 = true := code_word (m := ⟨8, 0⟩) (meth := k8m0) (c := k8c0) (by decide +kernel) rfl rfl rfl (by decide +kernel)
set_option maxRecDepth 65536 in
theorem w_c6 : (Jvm.Cond.code ({ cls := "com/example/tollwright/tollwright/planner/ContractHashCodePinLaw", name := "fold", desc := "(J)I" } : Jvm.MethodName) method_2_code (2 : Nat) (Option.some Jvm.ClassFile.FieldType.int)).before args0 about1 = true := code_word (m := ⟨1, 1⟩) (meth := k1m1) (c := k1c1) (by decide +kernel) rfl rfl rfl (by decide +kernel)
set_option maxRecDepth 65536 in
theorem w_c7 : (Jvm.Cond.code ({ cls := "com/example/tollwright/tollwright/planner/Contract", name := "equals", desc := "(Ljava/lang/Object;)Z" } : Jvm.MethodName) prog_27_method_4_code (2 : Nat) (Option.some Jvm.ClassFile.FieldType.boolean)).before args0 about1 = true := code_word (m := ⟨2, 1⟩) (meth := k2m1) (c := k2c1) (by decide +kernel) rfl rfl rfl (by decide +kernel)
def codes1 : List Jvm.Cond := [Jvm.Cond.code x code maxLocals ret, Jvm.Cond.code ({ cls := "com/example/tollwright/tollwright/planner/ContractHashCodePinLaw", name := "validRate", desc := "(J)J" } : Jvm.MethodName) method_3_code (4 : Nat) (Option.some Jvm.ClassFile.FieldType.long), Jvm.Cond.code ({ cls := "com/example/tollwright/tollwright/planner/Contract", name := "<init>", desc := "(JJ)V" } : Jvm.MethodName) prog_27_method_1_code (5 : Nat) (Option.none : Option Jvm.ClassFile.FieldType), Jvm.Cond.code ({ cls := "java/lang/Object", name := "<init>", desc := "()V" } : Jvm.MethodName) object_method_1_code (1 : Nat) (Option.none : Option Jvm.ClassFile.FieldType), Jvm.Cond.code ({ cls := "com/example/tollwright/tollwright/planner/Contract", name := "hashCode", desc := "()I" } : Jvm.MethodName) prog_27_method_5_code (1 : Nat) (Option.some Jvm.ClassFile.FieldType.int), Jvm.Cond.code ({ cls := "java/lang/Long", name := "hashCode", desc := "(J)I" } : Jvm.MethodName) jdk_35_method_36_code (2 : Nat) (Option.some Jvm.ClassFile.FieldType.int), Jvm.Cond.code ({ cls := "com/example/tollwright/tollwright/planner/ContractHashCodePinLaw", name := "fold", desc := "(J)I" } : Jvm.MethodName) method_2_code (2 : Nat) (Option.some Jvm.ClassFile.FieldType.int), Jvm.Cond.code ({ cls := "com/example/tollwright/tollwright/planner/Contract", name := "equals", desc := "(Ljava/lang/Object;)Z" } : Jvm.MethodName) prog_27_method_4_code (2 : Nat) (Option.some Jvm.ClassFile.FieldType.boolean)]
set_option maxRecDepth 65536 in
theorem codes_eq : words1.filter isCode = codes1 := rfl
theorem w_codes : ∀ c ∈ words1.filter isCode, c.before args0 about1 = true := by
  rw [codes_eq]
  intro c hc
  simp only [codes1, List.mem_cons, List.not_mem_nil, or_false] at hc
  rcases hc with rfl | rfl | rfl | rfl | rfl | rfl | rfl | rfl
  · exact w_c0
  · exact w_c1
  · exact w_c2
  · exact w_c3
  · exact w_c4
  · exact w_c5
  · exact w_c6
  · exact w_c7
set_option maxRecDepth 65536 in
theorem w_t1 : (words1.take 24).all (fun c => isCode c || c.before args0 about1) = true := by decide +kernel
set_option maxRecDepth 65536 in
theorem w_t2 : (words1.drop 24).all (fun c => isCode c || c.before args0 about1) = true := by decide +kernel
theorem w_tables : (allAtoms (Jvm.Cond.code x code maxLocals ret :: tables_1)).before args0 about1 = true := by
  rw [allAtoms_all]
  show words1.all (fun c => c.before args0 about1) = true
  refine all_split ?_ w_codes
  rw [← List.take_append_drop 24 words1, List.all_append, w_t1, w_t2]
  rfl
set_option maxRecDepth 65536 in
theorem w_case : (Jvm.Cond.and given_1 narrow_1).before args0 about1 = true := by decide +kernel
theorem w_applies : (headSpec (Jvm.Cond.code x code maxLocals ret :: tables_1) room_1).applies x e0.platform about1 = true :=
  (Spec.applies_iff w_frames).mpr ⟨w_running, w_runnable, w_alone, w_named, w_hears, w_ripe, w_room, w_tables⟩
theorem atStart : AtStart classFile x code maxLocals ret World_1 tables_1 room_1 Calls_1 rest_1 Pre_1 launch0 p0 e0 about1 theMethod args0 below0 :=
  ⟨lists_1, trivial, launch0.admits_env _ _ _, launch0.least_env, fairChoices_fair.cas, fairChoices_fair.clock, w_frames, w_args, w_heap, w_applies, trivial, trivial, w_case⟩
end start1
theorem witness_1 : WitnessClaimed_1 := ⟨start1.p0, start1.e0, start1.about1, start1.theMethod, start1.args0, start1.below0, start1.atStart⟩
end Jvm.Pilot.@@N@@
