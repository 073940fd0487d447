import JvmDerived
import JvmDerived.Pilot.@@N@@Statement
import JvmDerived.Pilot.@@N@@Code
set_option linter.unusedVariables false
set_option linter.unusedSimpArgs false
@@BLOCK:NumsL.lean.txt@@
namespace Jvm.RoadKit
open Sem ClassFile Op Lib Jvm.Stand Jvm.Free Jvm.LawKit
section New
variable {p : Program} {l : Launch} {e : Env} {R : Room} {s : State} {m : MethodId} {args : Array Value} {below : List Frame} {meth : Method} {c : Code} {T : State} {locs : List Loc} {cells slots : Nat}
theorem retI (X : Stand p l e R s m args below meth c T locs cells slots) (hx : p.tables.exec = Jvm.exec) {pc : Nat} {Ls : Array Slot} {z : Int32} {rest : List Value} (hret : meth.sig.returnType = some .int) (hd : decode c.code pc = .ok (.ireturn, 1)) {fs : List Frame}
    (hl : ∀ (f : JFrame) (acts : List Action), f.method = m → f.locked = none → f.entered = [] → (doReturn e (T.setTop f) acts (some (.int z))).1 = T.setFrames fs) : Steps p.tables e below (T.setTop (mkF m pc Ls (.int z :: rest))) (T.setFrames fs) :=
  retOut X hx hret rfl (Or.inl ⟨rfl, Or.inl rfl, z, rfl⟩) hd hl
end New
end Jvm.RoadKit
namespace Jvm.Pilot.@@N@@
open Jvm Jvm.ClassFile Sem Op Lib Jvm.Free Jvm.Stand Jvm.LawKit Jvm.RoadKit Bundle Jvm.Pilot.@@N@@.Jvm.D
theorem own_mask (x : Int64) : ¬ (x &&& (9223372036854775807 : Int64)) < 0 := fun q => absurd ((Jvm.Free.XT.and_neg64 _ _).mp q).2 (by decide)
def own_vr (q : Int64) : Int64 := if lcmpW (q &&& (9223372036854775807 : Int64)) (0 : Int64) = 0 then (1 : Int64) else (q &&& (9223372036854775807 : Int64))
theorem own_vr_pos (q : Int64) : (0 : Int64) < own_vr q := by
  unfold own_vr
  split
  · decide
  · rename_i h
    rw [lw_eq] at h
    have m := own_mask q
    generalize (q &&& (9223372036854775807 : Int64)) = y at *
    rw [Int64.lt_iff_toInt_lt] at m ⊢
    have z : ¬ y.toInt = (0 : Int64).toInt := fun e => h (Int64.toInt_inj.mp e)
    omega
def own_eq (ra da rb db : Int64) : Int32 := if lcmpW rb ra = 0 then (if lcmpW db da = 0 then 1 else 0) else 0
theorem own_eq_iff (ra da rb db : Int64) : own_eq ra da rb db = if rb = ra ∧ db = da then 1 else 0 := by
  unfold own_eq
  by_cases h1 : rb = ra
  · by_cases h2 : db = da
    · rw [if_pos ((lw_eq _ _).mpr h1), if_pos ((lw_eq _ _).mpr h2), if_pos ⟨h1, h2⟩]
    · rw [if_pos ((lw_eq _ _).mpr h1), if_neg (fun q => h2 ((lw_eq _ _).mp q)), if_neg (fun q => h2 q.2)]
  · rw [if_neg (fun q => h1 ((lw_eq _ _).mp q)), if_neg (fun q => h1 q.1)]
def own_QJ (r : Int64) (Z : State) (h0 : Heap) (n0 : Nat) (v : Option Value) (h : Heap) (L : List Loc) : Prop := v = some (.long r) ∧ Fr n0 L ∧ h = h0
def own_QI (r : Int32) (Z : State) (h0 : Heap) (n0 : Nat) (v : Option Value) (h : Heap) (L : List Loc) : Prop := v = some (.int r) ∧ Fr n0 L ∧ h = h0
theorem own_sta_keep {Z : State} {h h' : Heap} {C n d : String} {v : Value} (F : Sta Z h C n d v) (K : Keep h h' []) : Sta Z h' C n d v := by
  obtain ⟨cf, i, k, f, st, cell, h1, h2, h3, h4, h5, h6, h7⟩ := F
  exact ⟨cf, i, k, f, st, cell, h1, h2, h3, h4, K.2.1 _ _ h5 nin0, h6, h7⟩
theorem own_arr_keep {Z : State} {h h' : Heap} {a : Addr} {c : Cell} {ty : FieldType} (A : Arr Z h a c ty) (K : Keep h h' []) : Arr Z h' a c ty := ⟨K.2.1 _ _ A.1 nin0, A.2⟩
theorem own_eq_symm (ra da rb db : Int64) : own_eq ra da rb db = own_eq rb db ra da := by
  rw [own_eq_iff, own_eq_iff]
  by_cases q : rb = ra ∧ db = da
  · rw [if_pos q, if_pos ⟨q.1.symm, q.2.symm⟩]
  · rw [if_neg q, if_neg fun r => q ⟨r.1.symm, r.2.symm⟩]
theorem own_eq_self (ra da : Int64) : ¬ own_eq ra da ra da = 0 := by rw [own_eq_iff, if_pos ⟨rfl, rfl⟩]; decide
theorem own_idx {v : Int64} (h1 : ¬ v < (-128 : Int64)) (h2 : ¬ (127 : Int64) < v) : ¬ (v.toInt32 + (128 : Int32)) < 0 ∧ (v.toInt32 + (128 : Int32)).toNatClampNeg < 256 := by
  rw [Int64.lt_iff_toInt_lt] at h1 h2
  have z1 : (-128 : Int64).toInt = -128 := by decide
  have z2 : (127 : Int64).toInt = 127 := by decide
  have z3 : (128 : Int32).toInt = 128 := by decide
  have z4 : (0 : Int32).toInt = 0 := by decide
  have e1 : v.toInt32.toInt = v.toInt := Jvm.Kit.i32_of_i64 (by omega) (by omega)
  have e2 : (v.toInt32 + (128 : Int32)).toInt = v.toInt32.toInt + (128 : Int32).toInt := Jvm.Kit.i32_add (by omega) (by omega)
  have nn : ¬ (v.toInt32 + (128 : Int32)) < 0 := by rw [Int32.lt_iff_toInt_lt]; omega
  refine ⟨nn, ?_⟩
  have e3 := nat_of nn
  omega
def own_No (Z : State) (C K : String) : Prop := ∃ c t, Z.vm.findClass C = some c ∧ Z.vm.findClass K = some t ∧ Z.vm.assignable c t = false
theorem own_root {Z : State} {a0 : Array Value} {O K : String} {n : Nat} (w : (Jvm.Cond.noSuperclass O).before a0 Z = true) (wk : (Jvm.Cond.instantiable K n).before a0 Z = true) (hn : O ≠ K) : NS Z O K := by
  obtain ⟨c, k, h1, h2, h3, -⟩ := Cond.noSuperclass_spec w
  obtain ⟨t, k2, g1, -⟩ := Cond.instantiable_spec wk
  have ne := ids_ne h1 g1 hn
  refine ⟨c, t, h1, g1, fun fuel => ?_⟩
  cases fuel with
  | zero => rfl
  | succ f => simp [Vm.isSubclassAux, ne, h2, h3]
theorem own_no {Z : State} {a0 : Array Value} {C S K : String} {n : Nat} (w : (Jvm.Cond.superclass C S).before a0 Z = true) (wk : (Jvm.Cond.instantiable K n).before a0 Z = true) (q : NS Z C K) (hn : C ≠ K) : own_No Z C K := by
  obtain ⟨c, t, h0, g0, n3⟩ := q
  obtain ⟨p, k, kp, h1, h2, h3, h4, h5, -⟩ := Cond.superclass_spec h0 w
  obtain ⟨t', k', g1, g2, g3, g4, -⟩ := Cond.instantiable_spec wk
  cases g0.symm.trans g1
  have ne := ids_ne h0 g0 hn
  have gi : k'.isInterface = false := by cases hi : k'.isInterface <;> simp [hi] at g4 ⊢
  refine ⟨c, t, h0, g0, ?_⟩
  show Z.vm.assignableAux (255 + 1) c t = false
  simp [Vm.assignableAux, ne, h2, g2, h5, g3, gi, Vm.isSubclass, n3]
def own_Cache (Z : State) (h : Heap) (cl : Cell) : Prop := cl.slots.size = 256 ∧ ∀ j : Int32, ¬ (j < 0 ∨ cl.slots.size ≤ j.toNatClampNeg) → ∃ b, cl.slots[j.toNatClampNeg]? = some (.ref b) ∧ Exa Z h b "java/lang/Long"
theorem own_cache_keep {Z : State} {h h' : Heap} {cl : Cell} (F : own_Cache Z h cl) (K : Keep h h' []) : own_Cache Z h' cl := ⟨F.1, fun j hj => by obtain ⟨b, q, E⟩ := F.2 j hj; exact ⟨b, q, E.keep K⟩⟩
def own_Q1 (Z : State) (q1 : Int64) := own_QJ (own_vr q1) Z
theorem d1_0 : decode method_2_code 0 = .ok (.lload_n 0, 1) := by decide +kernel
theorem d1_1 : decode method_2_code 1 = .ok (.ldc2_w 9, 3) := by decide +kernel
theorem d1_4 : decode method_2_code 4 = .ok (.land, 1) := by decide +kernel
theorem d1_5 : decode method_2_code 5 = .ok (.lstore_n 2, 1) := by decide +kernel
theorem d1_6 : decode method_2_code 6 = .ok (.lload_n 2, 1) := by decide +kernel
theorem d1_7 : decode method_2_code 7 = .ok (.lconst 0, 1) := by decide +kernel
theorem d1_8 : decode method_2_code 8 = .ok (.lcmp, 1) := by decide +kernel
theorem d1_9 : decode method_2_code 9 = .ok (.ifCond .ne 7, 3) := by decide +kernel
theorem d1_12 : decode method_2_code 12 = .ok (.lconst 1, 1) := by decide +kernel
theorem d1_13 : decode method_2_code 13 = .ok (.goto 4, 3) := by decide +kernel
theorem d1_16 : decode method_2_code 16 = .ok (.lload_n 2, 1) := by decide +kernel
theorem d1_17 : decode method_2_code 17 = .ok (.lreturn, 1) := by decide +kernel
theorem pn_1 : plainName "com/example/tollwright/tollwright/planner/ContractEqualsPinLaw" = true := by first | (simp [plainName, overriddenIn]; done) | decide +kernel
theorem ef_1 (m : MethodId) (x0 : Int64) : entryFrame m #[(.long x0)] 4 = mkF m 0 #[.val (.long x0), .second, .unset, .unset] [] := by first | (simp [entryFrame, mkF, argsToLocals, Value.category]; done) | rfl
set_option maxRecDepth 65536 in
set_option maxHeartbeats 40000000 in
theorem rm1 (l : Launch) (Z : State) (a0 : Array Value) (hw : ∀ d ∈ tables_1, d.before a0 Z = true) (ws : List Jvm.Cond) (q1 : Int64) (h0 : Heap) (n0 : Nat) (Z0 : n0 ≤ h0.size) :
    MetFree l (⟨"com/example/tollwright/tollwright/planner/ContractEqualsPinLaw", "positive", "(J)J"⟩ : MethodName) (head1 (Jvm.Cond.code (⟨"com/example/tollwright/tollwright/planner/ContractEqualsPinLaw", "positive", "(J)J"⟩ : MethodName) method_2_code 4 (some .long) :: ws) ({ frames := 0, cells := 0, slots := 0, locals := 0 } : Room)) (fun a U => a = #[(.long q1)] ∧ Z.Warmed39 U.vm ∧ U.heap = h0) (fun _ _ _ _ _ => True) (fun _ U o U' => ∃ v L, o = .returned v ∧ own_Q1 Z q1 h0 n0 v U'.heap L ∧ FrameEnd U o U' L ({ frames := 0, cells := 0, slots := 0, locals := 0 } : Room).cells ({ frames := 0, cells := 0, slots := 0, locals := 0 } : Room).slots) := by
  refine MetFree.of_bodySF (plainFor_of_name pn_1) hisR ?_
  intro p e s m args below meth c s₁ Bd hml0 hP hK
  obtain ⟨rfl, hZ, hh⟩ := hP
  have hx := Bd.exec
  have hby := Bd.bytes
  have hml : c.maxLocals = 4 := hml0
  have hown : s.vm.findClass "com/example/tollwright/tollwright/planner/ContractEqualsPinLaw" = some m.cls := findClass_of_methodNamed Bd.named
  have hnm := (name_of_methodNamed Bd.named Bd.method).1
  have X0 : Stand p l e ({ frames := 0, cells := 0, slots := 0, locals := 0 } : Room) s m #[(.long q1)] below meth c s₁ [] 0 0 := Stand.of_body Bd
  have e0 : s₁.heap = h0 := by rw [← hh, Bd.state]; rfl
  have N0 := Fr.nil n0
  have pre0 : ∀ tq, Steps p.tables e below (s₁.setTop (mkF m 0 #[.val (.long q1), .second, .unset, .unset] [])) tq → Steps p.tables e below (s₁.setTop (entryFrame m #[(.long q1)] 4)) tq := fun tq k => castTop (ef_1 m q1) k
  have k1 : ∀ tq, Steps p.tables e below (s₁.setTop (mkF m 9 #[.val (.long q1), .second, .val (.long (q1 &&& (9223372036854775807 : Int64))), .second] [(.int (lcmpW (q1 &&& (9223372036854775807 : Int64)) (0 : Int64)))])) tq → Steps p.tables e below (s₁.setTop (entryFrame m #[(.long q1)] 4)) tq := by
    intro tq kt
    refine pre0 tq ?_
    show Steps p.tables e below (s₁.setTop (mkF m 0 #[.val (.long q1), .second, .unset, .unset] [])) _
    refine XS.lloadN X0.here hx rfl (hb hby d1_0) rfl ?_
    show Steps p.tables e below (s₁.setTop (mkF m 1 #[.val (.long q1), .second, .unset, .unset] [(.long q1)])) _
    refine X0.ldc2Long hx hown (mvT hZ (hw _ (List.mem_of_getElem? (i := 4) rfl))) (g := (mkF m 1 #[.val (.long q1), .second, .unset, .unset] [(.long q1)])) rfl (hb hby d1_1) _ ?_
    show Steps p.tables e below (s₁.setTop (mkF m 4 #[.val (.long q1), .second, .unset, .unset] [(.long (9223372036854775807 : Int64)), (.long q1)])) _
    refine XS.land X0.here hx rfl (hb hby d1_4) rfl ?_
    show Steps p.tables e below (s₁.setTop (mkF m 5 #[.val (.long q1), .second, .unset, .unset] [(.long (q1 &&& (9223372036854775807 : Int64)))])) _
    refine XS.lstoreN X0.here hx rfl (hb hby d1_5) rfl (l' := #[.val (.long q1), .second, .val (.long (q1 &&& (9223372036854775807 : Int64))), .second]) rfl ?_
    show Steps p.tables e below (s₁.setTop (mkF m 6 #[.val (.long q1), .second, .val (.long (q1 &&& (9223372036854775807 : Int64))), .second] [])) _
    refine XS.lloadN X0.here hx rfl (hb hby d1_6) rfl ?_
    show Steps p.tables e below (s₁.setTop (mkF m 7 #[.val (.long q1), .second, .val (.long (q1 &&& (9223372036854775807 : Int64))), .second] [(.long (q1 &&& (9223372036854775807 : Int64)))])) _
    refine XS.lconst X0.here hx rfl (hb hby d1_7) ?_
    show Steps p.tables e below (s₁.setTop (mkF m 8 #[.val (.long q1), .second, .val (.long (q1 &&& (9223372036854775807 : Int64))), .second] [(.long (0 : Int64)), (.long (q1 &&& (9223372036854775807 : Int64)))])) _
    refine XS.lcmp X0.here hx rfl (hb hby d1_8) rfl ?_
    exact kt
  by_cases hc2 : (lcmpW (q1 &&& (9223372036854775807 : Int64)) (0 : Int64)) = (0 : Int32)
  · obtain ⟨fs, hr, hrun, hended, hW, hsame⟩ := X0.leave (v := some (.long (1 : Int64))) (fun h => by rw [Bd.returns] at h; cases h)
    refine ⟨_, _, k1 _ ?_, hrun, hended, _, _, rfl, ?_, ⟨_, rfl⟩, hW, hsame.mono (by decide) (by decide)⟩
    · show Steps p.tables e below (s₁.setTop (mkF m 9 #[.val (.long q1), .second, .val (.long (q1 &&& (9223372036854775807 : Int64))), .second] [(.int (lcmpW (q1 &&& (9223372036854775807 : Int64)) (0 : Int64)))])) _
      refine XS.ifNo X0.here hx rfl (hb hby d1_9) rfl ((if0 _ _).trans (teq hc2).2) ?_
      show Steps p.tables e below (s₁.setTop (mkF m 12 #[.val (.long q1), .second, .val (.long (q1 &&& (9223372036854775807 : Int64))), .second] [])) _
      refine XS.lconst X0.here hx rfl (hb hby d1_12) ?_
      show Steps p.tables e below (s₁.setTop (mkF m 13 #[.val (.long q1), .second, .val (.long (q1 &&& (9223372036854775807 : Int64))), .second] [(.long (1 : Int64))])) _
      refine XS.goto X0.here hx rfl (pc0 := 13) (pc' := 17) rfl (hb hby d1_13) (by decide) (by decide) ?_
      show Steps p.tables e below (s₁.setTop (mkF m 17 #[.val (.long q1), .second, .val (.long (q1 &&& (9223372036854775807 : Int64))), .second] [(.long (1 : Int64))])) _
      exact retOut X0 hx Bd.returns rfl (Or.inr (Or.inl ⟨rfl, rfl, _, rfl⟩)) (hb hby d1_17) hr
    · show own_Q1 Z q1 h0 n0 _ s₁.heap _
      rw [e0]
      exact ⟨congrArg (fun z => some (Value.long z)) (show (1 : Int64) = own_vr q1 from by unfold own_vr; rw [if_pos hc2]), N0, rfl⟩
  · obtain ⟨fs, hr, hrun, hended, hW, hsame⟩ := X0.leave (v := some (.long (q1 &&& (9223372036854775807 : Int64)))) (fun h => by rw [Bd.returns] at h; cases h)
    refine ⟨_, _, k1 _ ?_, hrun, hended, _, _, rfl, ?_, ⟨_, rfl⟩, hW, hsame.mono (by decide) (by decide)⟩
    · show Steps p.tables e below (s₁.setTop (mkF m 9 #[.val (.long q1), .second, .val (.long (q1 &&& (9223372036854775807 : Int64))), .second] [(.int (lcmpW (q1 &&& (9223372036854775807 : Int64)) (0 : Int64)))])) _
      refine XS.ifYes X0.here hx rfl (pc0 := 9) (pc' := 16) rfl (hb hby d1_9) rfl ((if0 _ _).trans (feq hc2).2) (by decide) (by decide) ?_
      show Steps p.tables e below (s₁.setTop (mkF m 16 #[.val (.long q1), .second, .val (.long (q1 &&& (9223372036854775807 : Int64))), .second] [])) _
      refine XS.lloadN X0.here hx rfl (hb hby d1_16) rfl ?_
      show Steps p.tables e below (s₁.setTop (mkF m 17 #[.val (.long q1), .second, .val (.long (q1 &&& (9223372036854775807 : Int64))), .second] [(.long (q1 &&& (9223372036854775807 : Int64)))])) _
      exact retOut X0 hx Bd.returns rfl (Or.inr (Or.inl ⟨rfl, rfl, _, rfl⟩)) (hb hby d1_17) hr
    · show own_Q1 Z q1 h0 n0 _ s₁.heap _
      rw [e0]
      exact ⟨congrArg (fun z => some (Value.long z)) (show (q1 &&& (9223372036854775807 : Int64)) = own_vr q1 from by unfold own_vr; rw [if_neg hc2]), N0, rfl⟩
def own_Q2 (Z : State) (a1 : Addr) (q2 q3 : Int64) (h0 : Heap) (n0 : Nat) (v : Option Value) (h : Heap) (L : List Loc) : Prop := v = none ∧ Fr n0 L ∧ Keep h0 h [a1] ∧ Exa Z h a1 "com/example/tollwright/tollwright/planner/Contract" ∧ Fld Z h a1 "com/example/tollwright/tollwright/planner/Contract" "rate" "J" (.long q2) ∧ Fld Z h a1 "com/example/tollwright/tollwright/planner/Contract" "depth" "J" (.long q3)
theorem d2_0 : decode prog_27_method_1_code 0 = .ok (.aload_n 0, 1) := by decide +kernel
theorem d2_1 : decode prog_27_method_1_code 1 = .ok (.invokespecial 1, 3) := by decide +kernel
theorem d2_4 : decode prog_27_method_1_code 4 = .ok (.lload_n 1, 1) := by decide +kernel
theorem d2_5 : decode prog_27_method_1_code 5 = .ok (.lconst 0, 1) := by decide +kernel
theorem d2_6 : decode prog_27_method_1_code 6 = .ok (.lcmp, 1) := by decide +kernel
theorem d2_7 : decode prog_27_method_1_code 7 = .ok (.ifCond .gt 17, 3) := by decide +kernel
theorem d2_10 : decode prog_27_method_1_code 10 = .ok (.new 7, 3) := by decide +kernel
theorem d2_13 : decode prog_27_method_1_code 13 = .ok (.dup, 1) := by decide +kernel
theorem d2_14 : decode prog_27_method_1_code 14 = .ok (.lload_n 1, 1) := by decide +kernel
theorem d2_20 : decode prog_27_method_1_code 20 = .ok (.invokespecial 13, 3) := by decide +kernel
theorem d2_23 : decode prog_27_method_1_code 23 = .ok (.athrow, 1) := by decide +kernel
theorem d2_24 : decode prog_27_method_1_code 24 = .ok (.lload_n 3, 1) := by decide +kernel
theorem d2_25 : decode prog_27_method_1_code 25 = .ok (.lconst 0, 1) := by decide +kernel
theorem d2_26 : decode prog_27_method_1_code 26 = .ok (.lcmp, 1) := by decide +kernel
theorem d2_27 : decode prog_27_method_1_code 27 = .ok (.ifCond .ge 17, 3) := by decide +kernel
theorem d2_30 : decode prog_27_method_1_code 30 = .ok (.new 7, 3) := by decide +kernel
theorem d2_33 : decode prog_27_method_1_code 33 = .ok (.dup, 1) := by decide +kernel
theorem d2_34 : decode prog_27_method_1_code 34 = .ok (.lload_n 3, 1) := by decide +kernel
theorem d2_40 : decode prog_27_method_1_code 40 = .ok (.invokespecial 13, 3) := by decide +kernel
theorem d2_43 : decode prog_27_method_1_code 43 = .ok (.athrow, 1) := by decide +kernel
theorem d2_44 : decode prog_27_method_1_code 44 = .ok (.aload_n 0, 1) := by decide +kernel
theorem d2_45 : decode prog_27_method_1_code 45 = .ok (.lload_n 1, 1) := by decide +kernel
theorem d2_46 : decode prog_27_method_1_code 46 = .ok (.putfield 17, 3) := by decide +kernel
theorem d2_49 : decode prog_27_method_1_code 49 = .ok (.aload_n 0, 1) := by decide +kernel
theorem d2_50 : decode prog_27_method_1_code 50 = .ok (.lload_n 3, 1) := by decide +kernel
theorem d2_51 : decode prog_27_method_1_code 51 = .ok (.putfield 23, 3) := by decide +kernel
theorem d2_54 : decode prog_27_method_1_code 54 = .ok (.return_, 1) := by decide +kernel
theorem pn_2 : plainName "com/example/tollwright/tollwright/planner/Contract" = true := by first | (simp [plainName, overriddenIn]; done) | decide +kernel
theorem ef_2 (m : MethodId) (x0 : Addr) (x1 : Int64) (x2 : Int64) : entryFrame m #[(.ref x0), (.long x1), (.long x2)] 5 = mkF m 0 #[.val (.ref x0), .val (.long x1), .second, .val (.long x2), .second] [] := by first | (simp [entryFrame, mkF, argsToLocals, Value.category]; done) | rfl
set_option maxRecDepth 65536 in
set_option maxHeartbeats 40000000 in
theorem rm2 (l : Launch) (Z : State) (a0 : Array Value) (hw : ∀ d ∈ tables_1, d.before a0 Z = true) (ws : List Jvm.Cond) (a1 : Addr) (q2 q3 : Int64) (h0 : Heap) (n0 : Nat) (Z0 : n0 ≤ h0.size) (E_a1 : Exa Z h0 a1 "com/example/tollwright/tollwright/planner/Contract") (Fr_a1 : Fld Z h0 a1 "com/example/tollwright/tollwright/planner/Contract" "rate" "J" (.long (0 : Int64))) (Fd_a1 : Fld Z h0 a1 "com/example/tollwright/tollwright/planner/Contract" "depth" "J" (.long (0 : Int64))) (g_a1 : n0 ≤ a1) (hrate : (0 : Int64) < q2) (hdepth : ¬ q3 < (0 : Int64)) :
    MetFree l (⟨"com/example/tollwright/tollwright/planner/Contract", "<init>", "(JJ)V"⟩ : MethodName) (head1 (Jvm.Cond.code (⟨"com/example/tollwright/tollwright/planner/Contract", "<init>", "(JJ)V"⟩ : MethodName) prog_27_method_1_code 5 none :: ws) ({ frames := 1, cells := 0, slots := 0, locals := 12 } : Room)) (fun a U => a = #[(.ref a1), (.long q2), (.long q3)] ∧ Z.Warmed39 U.vm ∧ U.heap = h0) (fun _ _ _ _ _ => True) (fun _ U o U' => ∃ v L, o = .returned v ∧ own_Q2 Z a1 q2 q3 h0 n0 v U'.heap L ∧ FrameEnd U o U' L ({ frames := 1, cells := 0, slots := 0, locals := 12 } : Room).cells ({ frames := 1, cells := 0, slots := 0, locals := 12 } : Room).slots) := by
  refine MetFree.of_bodySF (plainFor_of_name pn_2) hisR ?_
  intro p e s m args below meth c s₁ Bd hml0 hP hK
  obtain ⟨rfl, hZ, hh⟩ := hP
  have hx := Bd.exec
  have hby := Bd.bytes
  have hml : c.maxLocals = 5 := hml0
  have hown : s.vm.findClass "com/example/tollwright/tollwright/planner/Contract" = some m.cls := findClass_of_methodNamed Bd.named
  have hnm := (name_of_methodNamed Bd.named Bd.method).1
  have X0 : Stand p l e ({ frames := 1, cells := 0, slots := 0, locals := 12 } : Room) s m #[(.ref a1), (.long q2), (.long q3)] below meth c s₁ [] 0 0 := Stand.of_body Bd
  have e0 : s₁.heap = h0 := by rw [← hh, Bd.state]; rfl
  have N0 := Fr.nil n0
  have pre0 : ∀ tq, Steps p.tables e below (s₁.setTop (mkF m 0 #[.val (.ref a1), .val (.long q2), .second, .val (.long q3), .second] [])) tq → Steps p.tables e below (s₁.setTop (entryFrame m #[(.ref a1), (.long q2), (.long q3)] 5)) tq := fun tq k => castTop (ef_2 m a1 q2 q3) k
  obtain ⟨T1, X1, e1, st1⟩ := initO X0 hx hZ hown (hw _ (List.mem_of_getElem? (i := 11) rfl)) (hw _ (List.mem_of_getElem? (i := 12) rfl)) (hw _ (List.mem_of_getElem? (i := 13) rfl)) e0 (g := (mkF m 1 #[.val (.ref a1), .val (.long q2), .second, .val (.long q3), .second] [(.ref a1)])) rfl (by rw [hml]; rfl) rfl (hb hby d2_1) (by decide) (W := 0) (by show 2 * 0 + _ ≤ _; exact Nat.le_of_eq rfl) (by decide)
  obtain ⟨T2, h2, X2, e2, W2, st2⟩ := putF X1 hx hZ hown (host := "") (Or.inl (hw _ (List.mem_of_getElem? (i := 14) rfl))) Via.refl e1 Fr_a1 E_a1 (Or.inr ⟨(hw _ (List.mem_of_getElem? (i := 15) rfl)), rfl, hnm⟩) (hw _ (List.mem_of_getElem? (i := 6) rfl)) (ty := .long) (by decide) rfl rfl (g := (mkF m 46 #[.val (.ref a1), .val (.long q2), .second, .val (.long q3), .second] [(.long q2), (.ref a1)])) rfl rfl (hb hby d2_46)
  have f3 := E_a1.wr W2
  have f4 := Fr_a1.same W2
  have f5 := Fd_a1.other W2 (Or.inr (slot_ne (Or.inr (hw _ (List.mem_of_getElem? (i := 17) rfl))) (Or.inr (hw _ (List.mem_of_getElem? (i := 15) rfl))) (by decide) (t := .long) (t' := .long) (by decide) (by decide)))
  have kp6 := (Keep.refl h0 [a1]).wr W2 (Or.inl (List.mem_of_getElem? (i := 0) rfl))
  have z7 := Nat.le_trans Z0 (Keep.of_wr W2).1
  have N8 := Fr.snoc X2 N0 g_a1
  obtain ⟨T9, h9, X9, e9, W9, st9⟩ := putF X2 hx hZ hown (host := "") (Or.inl (hw _ (List.mem_of_getElem? (i := 16) rfl))) Via.refl e2 f5 f3 (Or.inr ⟨(hw _ (List.mem_of_getElem? (i := 17) rfl)), rfl, hnm⟩) (hw _ (List.mem_of_getElem? (i := 6) rfl)) (ty := .long) (by decide) rfl rfl (g := (mkF m 51 #[.val (.ref a1), .val (.long q2), .second, .val (.long q3), .second] [(.long q3), (.ref a1)])) rfl rfl (hb hby d2_51)
  have f10 := f3.wr W9
  have f11 := f4.other W9 (Or.inr (slot_ne (Or.inr (hw _ (List.mem_of_getElem? (i := 15) rfl))) (Or.inr (hw _ (List.mem_of_getElem? (i := 17) rfl))) (by decide) (t := .long) (t' := .long) (by decide) (by decide)))
  have f12 := f5.same W9
  have kp13 := kp6.wr W9 (Or.inl (List.mem_of_getElem? (i := 0) rfl))
  have z14 := Nat.le_trans z7 (Keep.of_wr W9).1
  have N15 := Fr.snoc X9 N8 g_a1
  obtain ⟨fs, hr, hrun, hended, hW, hsame⟩ := X9.leave (v := none) (fun _ => rfl)
  refine ⟨_, _, pre0 _ ?_, hrun, hended, _, _, rfl, ?_, ⟨_, rfl⟩, hW, hsame.mono (by decide) (by decide)⟩
  · show Steps p.tables e below (s₁.setTop (mkF m 0 #[.val (.ref a1), .val (.long q2), .second, .val (.long q3), .second] [])) _
    refine XS.aloadN X0.here hx rfl (hb hby d2_0) rfl rfl ?_
    show Steps p.tables e below (s₁.setTop (mkF m 1 #[.val (.ref a1), .val (.long q2), .second, .val (.long q3), .second] [(.ref a1)])) _
    refine st1 _ ?_
    show Steps p.tables e below (T1.setTop (mkF m 4 #[.val (.ref a1), .val (.long q2), .second, .val (.long q3), .second] [])) _
    refine XS.lloadN X1.here hx rfl (hb hby d2_4) rfl ?_
    show Steps p.tables e below (T1.setTop (mkF m 5 #[.val (.ref a1), .val (.long q2), .second, .val (.long q3), .second] [(.long q2)])) _
    refine XS.lconst X1.here hx rfl (hb hby d2_5) ?_
    show Steps p.tables e below (T1.setTop (mkF m 6 #[.val (.ref a1), .val (.long q2), .second, .val (.long q3), .second] [(.long (0 : Int64)), (.long q2)])) _
    refine XS.lcmp X1.here hx rfl (hb hby d2_6) rfl ?_
    show Steps p.tables e below (T1.setTop (mkF m 7 #[.val (.ref a1), .val (.long q2), .second, .val (.long q3), .second] [(.int (lcmpW q2 (0 : Int64)))])) _
    refine XS.ifYes X1.here hx rfl (pc0 := 7) (pc' := 24) rfl (hb hby d2_7) rfl ((if0 _ _).trans (tlt ((lw_gt _ _).mpr hrate)).2.2.1) (by decide) (by decide) ?_
    show Steps p.tables e below (T1.setTop (mkF m 24 #[.val (.ref a1), .val (.long q2), .second, .val (.long q3), .second] [])) _
    refine XS.lloadN X1.here hx rfl (hb hby d2_24) rfl ?_
    show Steps p.tables e below (T1.setTop (mkF m 25 #[.val (.ref a1), .val (.long q2), .second, .val (.long q3), .second] [(.long q3)])) _
    refine XS.lconst X1.here hx rfl (hb hby d2_25) ?_
    show Steps p.tables e below (T1.setTop (mkF m 26 #[.val (.ref a1), .val (.long q2), .second, .val (.long q3), .second] [(.long (0 : Int64)), (.long q3)])) _
    refine XS.lcmp X1.here hx rfl (hb hby d2_26) rfl ?_
    show Steps p.tables e below (T1.setTop (mkF m 27 #[.val (.ref a1), .val (.long q2), .second, .val (.long q3), .second] [(.int (lcmpW q3 (0 : Int64)))])) _
    refine XS.ifYes X1.here hx rfl (pc0 := 27) (pc' := 44) rfl (hb hby d2_27) rfl ((if0 _ _).trans (flt (fun q => hdepth ((lw_lt _ _).mp q))).2.1) (by decide) (by decide) ?_
    show Steps p.tables e below (T1.setTop (mkF m 44 #[.val (.ref a1), .val (.long q2), .second, .val (.long q3), .second] [])) _
    refine XS.aloadN X1.here hx rfl (hb hby d2_44) rfl rfl ?_
    show Steps p.tables e below (T1.setTop (mkF m 45 #[.val (.ref a1), .val (.long q2), .second, .val (.long q3), .second] [(.ref a1)])) _
    refine XS.lloadN X1.here hx rfl (hb hby d2_45) rfl ?_
    show Steps p.tables e below (T1.setTop (mkF m 46 #[.val (.ref a1), .val (.long q2), .second, .val (.long q3), .second] [(.long q2), (.ref a1)])) _
    refine st2 _ ?_
    show Steps p.tables e below (T2.setTop (mkF m 49 #[.val (.ref a1), .val (.long q2), .second, .val (.long q3), .second] [])) _
    refine XS.aloadN X2.here hx rfl (hb hby d2_49) rfl rfl ?_
    show Steps p.tables e below (T2.setTop (mkF m 50 #[.val (.ref a1), .val (.long q2), .second, .val (.long q3), .second] [(.ref a1)])) _
    refine XS.lloadN X2.here hx rfl (hb hby d2_50) rfl ?_
    show Steps p.tables e below (T2.setTop (mkF m 51 #[.val (.ref a1), .val (.long q2), .second, .val (.long q3), .second] [(.long q3), (.ref a1)])) _
    refine st9 _ ?_
    show Steps p.tables e below (T9.setTop (mkF m 54 #[.val (.ref a1), .val (.long q2), .second, .val (.long q3), .second] [])) _
    exact X9.returnOut hx Bd.returns (hb hby d2_54) hr
  · show own_Q2 Z a1 q2 q3 h0 n0 _ T9.heap _
    rw [e9]
    exact ⟨rfl, N15, kp13, f10, f11, f12⟩
def own_QN (Z : State) (a1 : Addr) (h0 : Heap) (n0 : Nat) (v : Option Value) (h : Heap) (L : List Loc) : Prop := v = none ∧ Fr n0 L ∧ h = h0
theorem d7_0 : decode jdk_18_method_1_code 0 = .ok (.aload_n 0, 1) := by decide +kernel
theorem d7_1 : decode jdk_18_method_1_code 1 = .ok (.invokespecial 1, 3) := by decide +kernel
theorem d7_4 : decode jdk_18_method_1_code 4 = .ok (.return_, 1) := by decide +kernel
theorem pn_7 : plainName "java/lang/Number" = true := by first | (simp [plainName, overriddenIn]; done) | decide +kernel
theorem ef_7 (m : MethodId) (x0 : Addr) : entryFrame m #[(.ref x0)] 1 = mkF m 0 #[.val (.ref x0)] [] := by first | (simp [entryFrame, mkF, argsToLocals, Value.category]; done) | rfl
set_option maxRecDepth 65536 in
set_option maxHeartbeats 40000000 in
theorem rmN (l : Launch) (Z : State) (a0 : Array Value) (hw : ∀ d ∈ tables_1, d.before a0 Z = true) (ws : List Jvm.Cond) (a1 : Addr) (h0 : Heap) (n0 : Nat) (Z0 : n0 ≤ h0.size) :
    MetFree l (⟨"java/lang/Number", "<init>", "()V"⟩ : MethodName) (head1 (Jvm.Cond.code (⟨"java/lang/Number", "<init>", "()V"⟩ : MethodName) jdk_18_method_1_code 1 none :: ws) ({ frames := 1, cells := 0, slots := 0, locals := 12 } : Room)) (fun a U => a = #[(.ref a1)] ∧ Z.Warmed39 U.vm ∧ U.heap = h0) (fun _ _ _ _ _ => True) (fun _ U o U' => ∃ v L, o = .returned v ∧ own_QN Z a1 h0 n0 v U'.heap L ∧ FrameEnd U o U' L ({ frames := 1, cells := 0, slots := 0, locals := 12 } : Room).cells ({ frames := 1, cells := 0, slots := 0, locals := 12 } : Room).slots) := by
  refine MetFree.of_bodySF (plainFor_of_name pn_7) hisR ?_
  intro p e s m args below meth c s₁ Bd hml0 hP hK
  obtain ⟨rfl, hZ, hh⟩ := hP
  have hx := Bd.exec
  have hby := Bd.bytes
  have hml : c.maxLocals = 1 := hml0
  have hown : s.vm.findClass "java/lang/Number" = some m.cls := findClass_of_methodNamed Bd.named
  have hnm := (name_of_methodNamed Bd.named Bd.method).1
  have X0 : Stand p l e ({ frames := 1, cells := 0, slots := 0, locals := 12 } : Room) s m #[(.ref a1)] below meth c s₁ [] 0 0 := Stand.of_body Bd
  have e0 : s₁.heap = h0 := by rw [← hh, Bd.state]; rfl
  have N0 := Fr.nil n0
  have pre0 : ∀ tq, Steps p.tables e below (s₁.setTop (mkF m 0 #[.val (.ref a1)] [])) tq → Steps p.tables e below (s₁.setTop (entryFrame m #[(.ref a1)] 1)) tq := fun tq k => castTop (ef_7 m a1) k
  obtain ⟨T1, X1, e1, st1⟩ := initO X0 hx hZ hown (hw _ (List.mem_of_getElem? (i := 48) rfl)) (hw _ (List.mem_of_getElem? (i := 12) rfl)) (hw _ (List.mem_of_getElem? (i := 13) rfl)) e0 (g := (mkF m 1 #[.val (.ref a1)] [(.ref a1)])) rfl (by rw [hml]; rfl) rfl (hb hby d7_1) (by decide) (W := 0) (by show 2 * 0 + _ ≤ _; exact Nat.le_of_eq rfl) (by decide)
  obtain ⟨fs, hr, hrun, hended, hW, hsame⟩ := X1.leave (v := none) (fun _ => rfl)
  refine ⟨_, _, pre0 _ ?_, hrun, hended, _, _, rfl, ?_, ⟨_, rfl⟩, hW, hsame.mono (by decide) (by decide)⟩
  · show Steps p.tables e below (s₁.setTop (mkF m 0 #[.val (.ref a1)] [])) _
    refine XS.aloadN X0.here hx rfl (hb hby d7_0) rfl rfl ?_
    show Steps p.tables e below (s₁.setTop (mkF m 1 #[.val (.ref a1)] [(.ref a1)])) _
    refine st1 _ ?_
    show Steps p.tables e below (T1.setTop (mkF m 4 #[.val (.ref a1)] [])) _
    exact X1.returnOut hx Bd.returns (hb hby d7_4) hr
  · show own_QN Z a1 h0 n0 _ T1.heap _
    rw [e1]
    exact ⟨rfl, N0, rfl⟩
theorem pd_0 : parseMethodDescriptor "(J)J" = some ⟨[.long], some .long⟩ := by decide +kernel
theorem pd_1 : parseMethodDescriptor "(JJ)V" = some ⟨[.long, .long], none⟩ := by decide +kernel
theorem pd_2 : parseMethodDescriptor "()V" = some ⟨[], none⟩ := by decide +kernel
theorem pd_3 : parseMethodDescriptor "(J)Ljava/lang/Long;" = some ⟨[.long], some (.object "java/lang/Long")⟩ := by decide +kernel
theorem pd_4 : parseMethodDescriptor "(Ljava/lang/Object;)Z" = some ⟨[(.object "java/lang/Object")], some .boolean⟩ := by decide +kernel
theorem pd_5 : parseMethodDescriptor "(J)V" = some ⟨[.long], none⟩ := by decide +kernel
def own_QL (Z : State) (a1 : Addr) (q2 : Int64) (h0 : Heap) (n0 : Nat) (v : Option Value) (h : Heap) (L : List Loc) : Prop := v = none ∧ Fr n0 L ∧ Keep h0 h [a1] ∧ Exa Z h a1 "java/lang/Long"
theorem d6_0 : decode jdk_35_method_26_code 0 = .ok (.aload_n 0, 1) := by decide +kernel
theorem d6_1 : decode jdk_35_method_26_code 1 = .ok (.invokespecial 270, 3) := by decide +kernel
theorem d6_4 : decode jdk_35_method_26_code 4 = .ok (.aload_n 0, 1) := by decide +kernel
theorem d6_5 : decode jdk_35_method_26_code 5 = .ok (.lload_n 1, 1) := by decide +kernel
theorem d6_6 : decode jdk_35_method_26_code 6 = .ok (.putfield 273, 3) := by decide +kernel
theorem d6_9 : decode jdk_35_method_26_code 9 = .ok (.return_, 1) := by decide +kernel
theorem pn_6 : plainName "java/lang/Long" = true := by first | (simp [plainName, overriddenIn]; done) | decide +kernel
theorem ef_6 (m : MethodId) (x0 : Addr) (x1 : Int64) : entryFrame m #[(.ref x0), (.long x1)] 3 = mkF m 0 #[.val (.ref x0), .val (.long x1), .second] [] := by first | (simp [entryFrame, mkF, argsToLocals, Value.category]; done) | rfl
set_option maxRecDepth 65536 in
set_option maxHeartbeats 40000000 in
theorem rmL (l : Launch) (Z : State) (a0 : Array Value) (hw : ∀ d ∈ tables_1, d.before a0 Z = true) (ws : List Jvm.Cond) (a1 : Addr) (q2 : Int64) (h0 : Heap) (n0 : Nat) (Z0 : n0 ≤ h0.size) (E_a1 : Exa Z h0 a1 "java/lang/Long") (F1 : Fld Z h0 a1 "java/lang/Long" "value" "J" (.long (0 : Int64))) (g_a1 : n0 ≤ a1) :
    MetFree l (⟨"java/lang/Long", "<init>", "(J)V"⟩ : MethodName) (head1 (Jvm.Cond.code (⟨"java/lang/Long", "<init>", "(J)V"⟩ : MethodName) jdk_35_method_26_code 3 none :: ws) ({ frames := 2, cells := 0, slots := 0, locals := 24 } : Room)) (fun a U => a = #[(.ref a1), (.long q2)] ∧ Z.Warmed39 U.vm ∧ U.heap = h0) (fun _ _ _ _ _ => True) (fun _ U o U' => ∃ v L, o = .returned v ∧ own_QL Z a1 q2 h0 n0 v U'.heap L ∧ FrameEnd U o U' L ({ frames := 2, cells := 0, slots := 0, locals := 24 } : Room).cells ({ frames := 2, cells := 0, slots := 0, locals := 24 } : Room).slots) := by
  refine MetFree.of_bodySF (plainFor_of_name pn_6) hisR ?_
  intro p e s m args below meth c s₁ Bd hml0 hP hK
  obtain ⟨rfl, hZ, hh⟩ := hP
  have hx := Bd.exec
  have hby := Bd.bytes
  have hml : c.maxLocals = 3 := hml0
  have hown : s.vm.findClass "java/lang/Long" = some m.cls := findClass_of_methodNamed Bd.named
  have hnm := (name_of_methodNamed Bd.named Bd.method).1
  have X0 : Stand p l e ({ frames := 2, cells := 0, slots := 0, locals := 24 } : Room) s m #[(.ref a1), (.long q2)] below meth c s₁ [] 0 0 := Stand.of_body Bd
  have e0 : s₁.heap = h0 := by rw [← hh, Bd.state]; rfl
  have N0 := Fr.nil n0
  have pre0 : ∀ tq, Steps p.tables e below (s₁.setTop (mkF m 0 #[.val (.ref a1), .val (.long q2), .second] [])) tq → Steps p.tables e below (s₁.setTop (entryFrame m #[(.ref a1), (.long q2)] 3)) tq := fun tq k => castTop (ef_6 m a1 q2) k
  obtain ⟨_, _, ⟨T1, L1, k1, n1⟩, -, X1, ⟨Lc1, hQ1, l1, y1, z1⟩, st1⟩ := X0.specialBack hx (y := (⟨"java/lang/Number", "<init>", "()V"⟩ : MethodName)) rfl hown (mvT hZ (hw _ (List.mem_of_getElem? (i := 42) rfl))) (mvT hZ (hw _ (List.mem_of_getElem? (i := 43) rfl))) (mvT hZ (hw _ (List.mem_of_getElem? (i := 47) rfl))) (by decide) (backOf (W := 0) (rmN l Z a0 hw [] a1 h0 n0 Z0) hZ (hw _ (List.mem_of_getElem? (i := 47) rfl)) (hw _ (List.mem_of_getElem? (i := 46) rfl)) (by decide) (by decide)) (g := (mkF m 1 #[.val (.ref a1), .val (.long q2), .second] [(.ref a1)])) rfl (by rw [hml]; rfl) (Steps.refl _) (a := a1) (argsL := []) (rest := []) (lenOf pd_2 rfl) rfl (by show 2 * 0 + _ ≤ _; exact Nat.le_of_eq rfl) (hb hby d6_1) (fun _ _ => ⟨rfl, e0, (by decide : 0 + 0 ≤ _), (by decide : 0 + 0 ≤ _)⟩)
  dsimp only [Pt.U, Pt.locs, Pt.cells, Pt.slots] at X1 l1 y1 z1 st1 hQ1
  subst l1 y1 z1
  obtain ⟨rfl, N1q, e1⟩ := hQ1
  have N1 := Fr.app N0 N1q
  obtain ⟨T2, h2, X2, e2, W2, st2⟩ := putF X1 hx hZ hown (host := "") (Or.inl (hw _ (List.mem_of_getElem? (i := 49) rfl))) Via.refl e1 F1 E_a1 (Or.inr ⟨(hw _ (List.mem_of_getElem? (i := 50) rfl)), rfl, hnm⟩) (hw _ (List.mem_of_getElem? (i := 37) rfl)) (ty := .long) (by decide) rfl rfl (g := (mkF m 6 #[.val (.ref a1), .val (.long q2), .second] [(.long q2), (.ref a1)])) rfl rfl (hb hby d6_6)
  have f3 := E_a1.wr W2
  have f4 := F1.same W2
  have kp5 := (Keep.refl h0 [a1]).wr W2 (Or.inl (List.mem_of_getElem? (i := 0) rfl))
  have z6 := Nat.le_trans Z0 (Keep.of_wr W2).1
  have N7 := Fr.snoc X2 N1 g_a1
  obtain ⟨fs, hr, hrun, hended, hW, hsame⟩ := X2.leave (v := none) (fun _ => rfl)
  refine ⟨_, _, pre0 _ ?_, hrun, hended, _, _, rfl, ?_, ⟨_, rfl⟩, hW, hsame.mono (by decide) (by decide)⟩
  · show Steps p.tables e below (s₁.setTop (mkF m 0 #[.val (.ref a1), .val (.long q2), .second] [])) _
    refine XS.aloadN X0.here hx rfl (hb hby d6_0) rfl rfl ?_
    show Steps p.tables e below (s₁.setTop (mkF m 1 #[.val (.ref a1), .val (.long q2), .second] [(.ref a1)])) _
    refine st1.trans ?_
    show Steps p.tables e below (T1.setTop (mkF m 4 #[.val (.ref a1), .val (.long q2), .second] [])) _
    refine XS.aloadN X1.here hx rfl (hb hby d6_4) rfl rfl ?_
    show Steps p.tables e below (T1.setTop (mkF m 5 #[.val (.ref a1), .val (.long q2), .second] [(.ref a1)])) _
    refine XS.lloadN X1.here hx rfl (hb hby d6_5) rfl ?_
    show Steps p.tables e below (T1.setTop (mkF m 6 #[.val (.ref a1), .val (.long q2), .second] [(.long q2), (.ref a1)])) _
    refine st2 _ ?_
    show Steps p.tables e below (T2.setTop (mkF m 9 #[.val (.ref a1), .val (.long q2), .second] [])) _
    exact X2.returnOut hx Bd.returns (hb hby d6_9) hr
  · show own_QL Z a1 q2 h0 n0 _ T2.heap _
    rw [e2]
    exact ⟨rfl, N7, kp5, f3⟩
def own_QV (Z : State) (q1 : Int64) (h0 : Heap) (n0 : Nat) (v : Option Value) (h : Heap) (L : List Loc) : Prop := ∃ b : Addr, v = some (.ref b) ∧ Fr n0 L ∧ Keep h0 h [] ∧ Exa Z h b "java/lang/Long"
theorem d4_0 : decode jdk_35_method_24_code 0 = .ok (.sipush 128, 3) := by decide +kernel
theorem d4_3 : decode jdk_35_method_24_code 3 = .ok (.istore_n 2, 1) := by decide +kernel
theorem d4_4 : decode jdk_35_method_24_code 4 = .ok (.lload_n 0, 1) := by decide +kernel
theorem d4_5 : decode jdk_35_method_24_code 5 = .ok (.ldc2_w 230, 3) := by decide +kernel
theorem d4_8 : decode jdk_35_method_24_code 8 = .ok (.lcmp, 1) := by decide +kernel
theorem d4_9 : decode jdk_35_method_24_code 9 = .ok (.ifCond .lt 22, 3) := by decide +kernel
theorem d4_12 : decode jdk_35_method_24_code 12 = .ok (.lload_n 0, 1) := by decide +kernel
theorem d4_13 : decode jdk_35_method_24_code 13 = .ok (.ldc2_w 232, 3) := by decide +kernel
theorem d4_16 : decode jdk_35_method_24_code 16 = .ok (.lcmp, 1) := by decide +kernel
theorem d4_17 : decode jdk_35_method_24_code 17 = .ok (.ifCond .gt 14, 3) := by decide +kernel
theorem d4_20 : decode jdk_35_method_24_code 20 = .ok (.getstatic 234, 3) := by decide +kernel
theorem d4_23 : decode jdk_35_method_24_code 23 = .ok (.lload_n 0, 1) := by decide +kernel
theorem d4_24 : decode jdk_35_method_24_code 24 = .ok (.l2i, 1) := by decide +kernel
theorem d4_25 : decode jdk_35_method_24_code 25 = .ok (.sipush 128, 3) := by decide +kernel
theorem d4_28 : decode jdk_35_method_24_code 28 = .ok (.iadd, 1) := by decide +kernel
theorem d4_29 : decode jdk_35_method_24_code 29 = .ok (.aaload, 1) := by decide +kernel
theorem d4_30 : decode jdk_35_method_24_code 30 = .ok (.areturn, 1) := by decide +kernel
theorem d4_31 : decode jdk_35_method_24_code 31 = .ok (.new 1, 3) := by decide +kernel
theorem d4_34 : decode jdk_35_method_24_code 34 = .ok (.dup, 1) := by decide +kernel
theorem d4_35 : decode jdk_35_method_24_code 35 = .ok (.lload_n 0, 1) := by decide +kernel
theorem d4_36 : decode jdk_35_method_24_code 36 = .ok (.invokespecial 240, 3) := by decide +kernel
theorem d4_39 : decode jdk_35_method_24_code 39 = .ok (.areturn, 1) := by decide +kernel
theorem pn_4 : plainName "java/lang/Long" = true := by first | (simp [plainName, overriddenIn]; done) | decide +kernel
theorem ef_4 (m : MethodId) (x0 : Int64) : entryFrame m #[(.long x0)] 3 = mkF m 0 #[.val (.long x0), .second, .unset] [] := by first | (simp [entryFrame, mkF, argsToLocals, Value.category]; done) | rfl
set_option maxRecDepth 65536 in
set_option maxHeartbeats 40000000 in
theorem rmV (l : Launch) (Z : State) (a0 : Array Value) (hw : ∀ d ∈ tables_1, d.before a0 Z = true) (ws : List Jvm.Cond) (q1 : Int64) (ca : Addr) (cl : Cell) (h0 : Heap) (n0 : Nat) (Z0 : n0 ≤ h0.size) (S_c : Sta Z h0 "java/lang/Long$LongCache" "cache" "[Ljava/lang/Long;" (.ref ca)) (Ar : Arr Z h0 ca cl (.object "java/lang/Long")) (Ca : own_Cache Z h0 cl) :
    MetFree l (⟨"java/lang/Long", "valueOf", "(J)Ljava/lang/Long;"⟩ : MethodName) (head1 (Jvm.Cond.code (⟨"java/lang/Long", "valueOf", "(J)Ljava/lang/Long;"⟩ : MethodName) jdk_35_method_24_code 3 (some (.object "java/lang/Long")) :: ws) ({ frames := 3, cells := 1, slots := 1, locals := 40 } : Room)) (fun a U => a = #[(.long q1)] ∧ Z.Warmed39 U.vm ∧ U.heap = h0) (fun _ _ _ _ _ => True) (fun _ U o U' => ∃ v L, o = .returned v ∧ own_QV Z q1 h0 n0 v U'.heap L ∧ FrameEnd U o U' L ({ frames := 3, cells := 1, slots := 1, locals := 40 } : Room).cells ({ frames := 3, cells := 1, slots := 1, locals := 40 } : Room).slots) := by
  refine MetFree.of_bodySF (plainFor_of_name pn_4) hisR ?_
  intro p e s m args below meth c s₁ Bd hml0 hP hK
  obtain ⟨rfl, hZ, hh⟩ := hP
  have hx := Bd.exec
  have hby := Bd.bytes
  have hml : c.maxLocals = 3 := hml0
  have hown : s.vm.findClass "java/lang/Long" = some m.cls := findClass_of_methodNamed Bd.named
  have hnm := (name_of_methodNamed Bd.named Bd.method).1
  have X0 : Stand p l e ({ frames := 3, cells := 1, slots := 1, locals := 40 } : Room) s m #[(.long q1)] below meth c s₁ [] 0 0 := Stand.of_body Bd
  have e0 : s₁.heap = h0 := by rw [← hh, Bd.state]; rfl
  have N0 := Fr.nil n0
  have pre0 : ∀ tq, Steps p.tables e below (s₁.setTop (mkF m 0 #[.val (.long q1), .second, .unset] [])) tq → Steps p.tables e below (s₁.setTop (entryFrame m #[(.long q1)] 3)) tq := fun tq k => castTop (ef_4 m q1) k
  have k1 : ∀ tq, Steps p.tables e below (s₁.setTop (mkF m 9 #[.val (.long q1), .second, .val (.int (128 : Int32))] [(.int (lcmpW q1 (-128 : Int64)))])) tq → Steps p.tables e below (s₁.setTop (entryFrame m #[(.long q1)] 3)) tq := by
    intro tq kt
    refine pre0 tq ?_
    show Steps p.tables e below (s₁.setTop (mkF m 0 #[.val (.long q1), .second, .unset] [])) _
    refine XS.sipush X0.here hx rfl (hb hby d4_0) ?_
    show Steps p.tables e below (s₁.setTop (mkF m 3 #[.val (.long q1), .second, .unset] [(.int (128 : Int32))])) _
    refine XS.istoreN X0.here hx rfl (hb hby d4_3) rfl (l' := #[.val (.long q1), .second, .val (.int (128 : Int32))]) rfl ?_
    show Steps p.tables e below (s₁.setTop (mkF m 4 #[.val (.long q1), .second, .val (.int (128 : Int32))] [])) _
    refine XS.lloadN X0.here hx rfl (hb hby d4_4) rfl ?_
    show Steps p.tables e below (s₁.setTop (mkF m 5 #[.val (.long q1), .second, .val (.int (128 : Int32))] [(.long q1)])) _
    refine X0.ldc2Long hx hown (mvT hZ (hw _ (List.mem_of_getElem? (i := 22) rfl))) (g := (mkF m 5 #[.val (.long q1), .second, .val (.int (128 : Int32))] [(.long q1)])) rfl (hb hby d4_5) _ ?_
    show Steps p.tables e below (s₁.setTop (mkF m 8 #[.val (.long q1), .second, .val (.int (128 : Int32))] [(.long (-128 : Int64)), (.long q1)])) _
    refine XS.lcmp X0.here hx rfl (hb hby d4_8) rfl ?_
    exact kt
  by_cases hc2 : (lcmpW q1 (-128 : Int64)) < (0 : Int32)
  · obtain ⟨T3, h3, X3, e3, E3, A3, D3, U3, st3⟩ := newO X0 hx hZ hown (hw _ (List.mem_of_getElem? (i := 36) rfl)) (hw _ (List.mem_of_getElem? (i := 37) rfl)) (hw _ (List.mem_of_getElem? (i := 20) rfl)) e0 (g := (mkF m 31 #[.val (.long q1), .second, .val (.int (128 : Int32))] [])) rfl (hb hby d4_31) (by decide) (by decide)
    obtain ⟨b3, g3⟩ : ∃ z, z = h0.size := ⟨_, rfl⟩
    rw [← g3] at A3 D3 U3 st3
    have g_b3 : n0 ≤ b3 := Nat.le_trans Z0 (Nat.le_of_eq g3.symm)
    have sz_b3 : h0.size ≤ b3 := Nat.le_trans (Keep.refl h0 []).1 (Nat.le_of_eq g3.symm)
    have f4 := S_c.ext E3
    have z5 := Nat.le_trans Z0 E3.1
    have kp6 := (Keep.refl h0 []).ext E3
    have F_value_b3 : Fld Z h3 b3 "java/lang/Long" "value" "J" (.long (0 : Int64)) := D3 (Or.inr (hw _ (List.mem_of_getElem? (i := 50) rfl))) (ty := .long) (by decide)
    obtain ⟨_, _, ⟨T7, L7, k7, n7⟩, -, X7, ⟨Lc7, hQ7, l7, y7, z7⟩, st7⟩ := X3.specialBack hx (y := (⟨"java/lang/Long", "<init>", "(J)V"⟩ : MethodName)) rfl hown (mvT hZ (hw _ (List.mem_of_getElem? (i := 38) rfl))) (mvT hZ (hw _ (List.mem_of_getElem? (i := 39) rfl))) (mvT hZ (hw _ (List.mem_of_getElem? (i := 41) rfl))) (by decide) (backOf (W := 1) (rmL l Z a0 hw [] b3 q1 h3 n0 z5 A3 F_value_b3 g_b3) hZ (hw _ (List.mem_of_getElem? (i := 41) rfl)) (hw _ (List.mem_of_getElem? (i := 20) rfl)) (by decide) (by decide)) (g := (mkF m 36 #[.val (.long q1), .second, .val (.int (128 : Int32))] [(.long q1), (.ref b3), (.ref b3)])) rfl (by rw [hml]; rfl) (Steps.refl _) (a := b3) (argsL := [(.long q1)]) (rest := [(.ref b3)]) (lenOf pd_5 rfl) rfl (by show 2 * 0 + _ ≤ _; exact Nat.le_of_eq rfl) (hb hby d4_36) (fun _ _ => ⟨rfl, e3, (by decide : 1 + 0 ≤ _), (by decide : 1 + 0 ≤ _)⟩)
    dsimp only [Pt.U, Pt.locs, Pt.cells, Pt.slots] at X7 l7 y7 z7 st7 hQ7
    subst l7 y7 z7
    obtain ⟨rfl, N7q, K7, Eo7⟩ := hQ7
    have N7 := Fr.app N0 N7q
    have f8 := A3.keep K7
    have z9 := Nat.le_trans z5 K7.1
    have kp10 := Keep.trans kp6 K7 (allS (Or.inr sz_b3) all0)
    obtain ⟨fs, hr, hrun, hended, hW, hsame⟩ := X7.leave (v := some (.ref b3)) (fun h => by rw [Bd.returns] at h; cases h)
    refine ⟨_, _, k1 _ ?_, hrun, hended, _, _, rfl, ?_, ⟨_, rfl⟩, hW, hsame.mono (by decide) (by decide)⟩
    · show Steps p.tables e below (s₁.setTop (mkF m 9 #[.val (.long q1), .second, .val (.int (128 : Int32))] [(.int (lcmpW q1 (-128 : Int64)))])) _
      refine XS.ifYes X0.here hx rfl (pc0 := 9) (pc' := 31) rfl (hb hby d4_9) rfl ((if0 _ _).trans (tlt hc2).1) (by decide) (by decide) ?_
      show Steps p.tables e below (s₁.setTop (mkF m 31 #[.val (.long q1), .second, .val (.int (128 : Int32))] [])) _
      refine st3 _ ?_
      show Steps p.tables e below (T3.setTop (mkF m 34 #[.val (.long q1), .second, .val (.int (128 : Int32))] [(.ref b3)])) _
      refine XS.dup X3.here hx rfl (hb hby d4_34) rfl rfl ?_
      show Steps p.tables e below (T3.setTop (mkF m 35 #[.val (.long q1), .second, .val (.int (128 : Int32))] [(.ref b3), (.ref b3)])) _
      refine XS.lloadN X3.here hx rfl (hb hby d4_35) rfl ?_
      show Steps p.tables e below (T3.setTop (mkF m 36 #[.val (.long q1), .second, .val (.int (128 : Int32))] [(.long q1), (.ref b3), (.ref b3)])) _
      refine st7.trans ?_
      show Steps p.tables e below (T7.setTop (mkF m 39 #[.val (.long q1), .second, .val (.int (128 : Int32))] [(.ref b3)])) _
      exact retOut X7 hx Bd.returns rfl (Or.inr (Or.inr (Or.inr (Or.inr ⟨rfl, rfl, rfl⟩)))) (hb hby d4_39) hr
    · show own_QV Z q1 h0 n0 _ T7.heap _
      exact ⟨b3, rfl, N7, kp10, Eo7⟩
  · have k11 : ∀ tq, Steps p.tables e below (s₁.setTop (mkF m 17 #[.val (.long q1), .second, .val (.int (128 : Int32))] [(.int (lcmpW q1 (127 : Int64)))])) tq → Steps p.tables e below (s₁.setTop (entryFrame m #[(.long q1)] 3)) tq := by
      intro tq kt
      refine k1 tq ?_
      show Steps p.tables e below (s₁.setTop (mkF m 9 #[.val (.long q1), .second, .val (.int (128 : Int32))] [(.int (lcmpW q1 (-128 : Int64)))])) _
      refine XS.ifNo X0.here hx rfl (hb hby d4_9) rfl ((if0 _ _).trans (flt hc2).1) ?_
      show Steps p.tables e below (s₁.setTop (mkF m 12 #[.val (.long q1), .second, .val (.int (128 : Int32))] [])) _
      refine XS.lloadN X0.here hx rfl (hb hby d4_12) rfl ?_
      show Steps p.tables e below (s₁.setTop (mkF m 13 #[.val (.long q1), .second, .val (.int (128 : Int32))] [(.long q1)])) _
      refine X0.ldc2Long hx hown (mvT hZ (hw _ (List.mem_of_getElem? (i := 23) rfl))) (g := (mkF m 13 #[.val (.long q1), .second, .val (.int (128 : Int32))] [(.long q1)])) rfl (hb hby d4_13) _ ?_
      show Steps p.tables e below (s₁.setTop (mkF m 16 #[.val (.long q1), .second, .val (.int (128 : Int32))] [(.long (127 : Int64)), (.long q1)])) _
      refine XS.lcmp X0.here hx rfl (hb hby d4_16) rfl ?_
      exact kt
    by_cases hc12 : (0 : Int32) < (lcmpW q1 (127 : Int64))
    · obtain ⟨T13, h13, X13, e13, E13, A13, D13, U13, st13⟩ := newO X0 hx hZ hown (hw _ (List.mem_of_getElem? (i := 36) rfl)) (hw _ (List.mem_of_getElem? (i := 37) rfl)) (hw _ (List.mem_of_getElem? (i := 20) rfl)) e0 (g := (mkF m 31 #[.val (.long q1), .second, .val (.int (128 : Int32))] [])) rfl (hb hby d4_31) (by decide) (by decide)
      obtain ⟨b13, g13⟩ : ∃ z, z = h0.size := ⟨_, rfl⟩
      rw [← g13] at A13 D13 U13 st13
      have g_b13 : n0 ≤ b13 := Nat.le_trans Z0 (Nat.le_of_eq g13.symm)
      have sz_b13 : h0.size ≤ b13 := Nat.le_trans (Keep.refl h0 []).1 (Nat.le_of_eq g13.symm)
      have f14 := S_c.ext E13
      have z15 := Nat.le_trans Z0 E13.1
      have kp16 := (Keep.refl h0 []).ext E13
      have F_value_b13 : Fld Z h13 b13 "java/lang/Long" "value" "J" (.long (0 : Int64)) := D13 (Or.inr (hw _ (List.mem_of_getElem? (i := 50) rfl))) (ty := .long) (by decide)
      obtain ⟨_, _, ⟨T17, L17, k17, n17⟩, -, X17, ⟨Lc17, hQ17, l17, y17, z17⟩, st17⟩ := X13.specialBack hx (y := (⟨"java/lang/Long", "<init>", "(J)V"⟩ : MethodName)) rfl hown (mvT hZ (hw _ (List.mem_of_getElem? (i := 38) rfl))) (mvT hZ (hw _ (List.mem_of_getElem? (i := 39) rfl))) (mvT hZ (hw _ (List.mem_of_getElem? (i := 41) rfl))) (by decide) (backOf (W := 1) (rmL l Z a0 hw [] b13 q1 h13 n0 z15 A13 F_value_b13 g_b13) hZ (hw _ (List.mem_of_getElem? (i := 41) rfl)) (hw _ (List.mem_of_getElem? (i := 20) rfl)) (by decide) (by decide)) (g := (mkF m 36 #[.val (.long q1), .second, .val (.int (128 : Int32))] [(.long q1), (.ref b13), (.ref b13)])) rfl (by rw [hml]; rfl) (Steps.refl _) (a := b13) (argsL := [(.long q1)]) (rest := [(.ref b13)]) (lenOf pd_5 rfl) rfl (by show 2 * 0 + _ ≤ _; exact Nat.le_of_eq rfl) (hb hby d4_36) (fun _ _ => ⟨rfl, e13, (by decide : 1 + 0 ≤ _), (by decide : 1 + 0 ≤ _)⟩)
      dsimp only [Pt.U, Pt.locs, Pt.cells, Pt.slots] at X17 l17 y17 z17 st17 hQ17
      subst l17 y17 z17
      obtain ⟨rfl, N17q, K17, Eo17⟩ := hQ17
      have N17 := Fr.app N0 N17q
      have f18 := A13.keep K17
      have z19 := Nat.le_trans z15 K17.1
      have kp20 := Keep.trans kp16 K17 (allS (Or.inr sz_b13) all0)
      obtain ⟨fs, hr, hrun, hended, hW, hsame⟩ := X17.leave (v := some (.ref b13)) (fun h => by rw [Bd.returns] at h; cases h)
      refine ⟨_, _, k11 _ ?_, hrun, hended, _, _, rfl, ?_, ⟨_, rfl⟩, hW, hsame.mono (by decide) (by decide)⟩
      · show Steps p.tables e below (s₁.setTop (mkF m 17 #[.val (.long q1), .second, .val (.int (128 : Int32))] [(.int (lcmpW q1 (127 : Int64)))])) _
        refine XS.ifYes X0.here hx rfl (pc0 := 17) (pc' := 31) rfl (hb hby d4_17) rfl ((if0 _ _).trans (tlt hc12).2.2.1) (by decide) (by decide) ?_
        show Steps p.tables e below (s₁.setTop (mkF m 31 #[.val (.long q1), .second, .val (.int (128 : Int32))] [])) _
        refine st13 _ ?_
        show Steps p.tables e below (T13.setTop (mkF m 34 #[.val (.long q1), .second, .val (.int (128 : Int32))] [(.ref b13)])) _
        refine XS.dup X13.here hx rfl (hb hby d4_34) rfl rfl ?_
        show Steps p.tables e below (T13.setTop (mkF m 35 #[.val (.long q1), .second, .val (.int (128 : Int32))] [(.ref b13), (.ref b13)])) _
        refine XS.lloadN X13.here hx rfl (hb hby d4_35) rfl ?_
        show Steps p.tables e below (T13.setTop (mkF m 36 #[.val (.long q1), .second, .val (.int (128 : Int32))] [(.long q1), (.ref b13), (.ref b13)])) _
        refine st17.trans ?_
        show Steps p.tables e below (T17.setTop (mkF m 39 #[.val (.long q1), .second, .val (.int (128 : Int32))] [(.ref b13)])) _
        exact retOut X17 hx Bd.returns rfl (Or.inr (Or.inr (Or.inr (Or.inr ⟨rfl, rfl, rfl⟩)))) (hb hby d4_39) hr
      · show own_QV Z q1 h0 n0 _ T17.heap _
        exact ⟨b13, rfl, N17, kp20, Eo17⟩
    · obtain ⟨T21, X21, e21, st21⟩ := getS2 X0 hx hZ hown (host := "") (Or.inl (hw _ (List.mem_of_getElem? (i := 24) rfl))) Via.refl e0 S_c (g := (mkF m 20 #[.val (.long q1), .second, .val (.int (128 : Int32))] [])) rfl (hb hby d4_20)
      have hj := own_idx (v := q1) (fun q => hc2 ((lw_lt _ _).mpr q)) (fun q => hc12 ((lw_gt _ _).mpr q))
      have hin : ¬ (((q1.toInt32) + (128 : Int32)) < 0 ∨ cl.slots.size ≤ (((q1.toInt32) + (128 : Int32))).toNatClampNeg) := fun q => q.elim hj.1 fun r => by have := hj.2; rw [Ca.1] at r; omega
      obtain ⟨bx, hbx, Ebx⟩ := Ca.2 _ hin
      obtain ⟨fs, hr, hrun, hended, hW, hsame⟩ := X21.leave (v := some (.ref bx)) (fun h => by rw [Bd.returns] at h; cases h)
      refine ⟨_, _, k11 _ ?_, hrun, hended, _, _, rfl, ?_, ⟨_, rfl⟩, hW, hsame.mono (by decide) (by decide)⟩
      · show Steps p.tables e below (s₁.setTop (mkF m 17 #[.val (.long q1), .second, .val (.int (128 : Int32))] [(.int (lcmpW q1 (127 : Int64)))])) _
        refine XS.ifNo X0.here hx rfl (hb hby d4_17) rfl ((if0 _ _).trans (flt hc12).2.2.1) ?_
        show Steps p.tables e below (s₁.setTop (mkF m 20 #[.val (.long q1), .second, .val (.int (128 : Int32))] [])) _
        refine st21 _ ?_
        show Steps p.tables e below (T21.setTop (mkF m 23 #[.val (.long q1), .second, .val (.int (128 : Int32))] [(.ref ca)])) _
        refine XS.lloadN X21.here hx rfl (hb hby d4_23) rfl ?_
        show Steps p.tables e below (T21.setTop (mkF m 24 #[.val (.long q1), .second, .val (.int (128 : Int32))] [(.long q1), (.ref ca)])) _
        refine XS.l2i X21.here hx rfl (hb hby d4_24) rfl ?_
        show Steps p.tables e below (T21.setTop (mkF m 25 #[.val (.long q1), .second, .val (.int (128 : Int32))] [(.int (q1.toInt32)), (.ref ca)])) _
        refine XS.sipush X21.here hx rfl (hb hby d4_25) ?_
        show Steps p.tables e below (T21.setTop (mkF m 28 #[.val (.long q1), .second, .val (.int (128 : Int32))] [(.int (128 : Int32)), (.int (q1.toInt32)), (.ref ca)])) _
        refine XS.iadd X21.here hx rfl (hb hby d4_28) rfl ?_
        show Steps p.tables e below (T21.setTop (mkF m 29 #[.val (.long q1), .second, .val (.int (128 : Int32))] [(.int ((q1.toInt32) + (128 : Int32))), (.ref ca)])) _
        refine X21.aaload hx (j := ((q1.toInt32) + (128 : Int32))) (v := (.ref bx)) (by rw [e21]; exact Ar.1) (State.isArrayOf_alike hZ.alike Ar.2.1) rfl Ar.2.2 hin hbx (g := (mkF m 29 #[.val (.long q1), .second, .val (.int (128 : Int32))] [(.int ((q1.toInt32) + (128 : Int32))), (.ref ca)])) rfl rfl (hb hby d4_29) _ ?_
        show Steps p.tables e below (T21.setTop (mkF m 30 #[.val (.long q1), .second, .val (.int (128 : Int32))] [(.ref bx)])) _
        exact retOut X21 hx Bd.returns rfl (Or.inr (Or.inr (Or.inr (Or.inr ⟨rfl, rfl, rfl⟩)))) (hb hby d4_30) hr
      · show own_QV Z q1 h0 n0 _ T21.heap _
        rw [e21]
        exact ⟨bx, rfl, N0, Keep.refl h0 [], Ebx⟩
def own_Q5 (Z : State) (a1 a2 : Addr) (ra da rb db : Int64) := own_QI (own_eq ra da rb db) Z
theorem d5_0 : decode prog_27_method_4_code 0 = .ok (.aload_n 1, 1) := by decide +kernel
theorem d5_1 : decode prog_27_method_4_code 1 = .ok (.instanceof 18, 3) := by decide +kernel
theorem d5_4 : decode prog_27_method_4_code 4 = .ok (.ifCond .eq 37, 3) := by decide +kernel
theorem d5_7 : decode prog_27_method_4_code 7 = .ok (.aload_n 1, 1) := by decide +kernel
theorem d5_8 : decode prog_27_method_4_code 8 = .ok (.checkcast 18, 3) := by decide +kernel
theorem d5_11 : decode prog_27_method_4_code 11 = .ok (.getfield 17, 3) := by decide +kernel
theorem d5_14 : decode prog_27_method_4_code 14 = .ok (.aload_n 0, 1) := by decide +kernel
theorem d5_15 : decode prog_27_method_4_code 15 = .ok (.getfield 17, 3) := by decide +kernel
theorem d5_18 : decode prog_27_method_4_code 18 = .ok (.lcmp, 1) := by decide +kernel
theorem d5_19 : decode prog_27_method_4_code 19 = .ok (.ifCond .ne 22, 3) := by decide +kernel
theorem d5_22 : decode prog_27_method_4_code 22 = .ok (.aload_n 1, 1) := by decide +kernel
theorem d5_23 : decode prog_27_method_4_code 23 = .ok (.checkcast 18, 3) := by decide +kernel
theorem d5_26 : decode prog_27_method_4_code 26 = .ok (.getfield 23, 3) := by decide +kernel
theorem d5_29 : decode prog_27_method_4_code 29 = .ok (.aload_n 0, 1) := by decide +kernel
theorem d5_30 : decode prog_27_method_4_code 30 = .ok (.getfield 23, 3) := by decide +kernel
theorem d5_33 : decode prog_27_method_4_code 33 = .ok (.lcmp, 1) := by decide +kernel
theorem d5_34 : decode prog_27_method_4_code 34 = .ok (.ifCond .ne 7, 3) := by decide +kernel
theorem d5_37 : decode prog_27_method_4_code 37 = .ok (.iconst 1, 1) := by decide +kernel
theorem d5_38 : decode prog_27_method_4_code 38 = .ok (.goto 4, 3) := by decide +kernel
theorem d5_41 : decode prog_27_method_4_code 41 = .ok (.iconst 0, 1) := by decide +kernel
theorem d5_42 : decode prog_27_method_4_code 42 = .ok (.ireturn, 1) := by decide +kernel
theorem pn_5 : plainName "com/example/tollwright/tollwright/planner/Contract" = true := by first | (simp [plainName, overriddenIn]; done) | decide +kernel
theorem ef_5 (m : MethodId) (x0 : Addr) (x1 : Addr) : entryFrame m #[(.ref x0), (.ref x1)] 2 = mkF m 0 #[.val (.ref x0), .val (.ref x1)] [] := by first | (simp [entryFrame, mkF, argsToLocals, Value.category]; done) | rfl
set_option maxRecDepth 65536 in
set_option maxHeartbeats 40000000 in
theorem rm5 (l : Launch) (Z : State) (a0 : Array Value) (hw : ∀ d ∈ tables_1, d.before a0 Z = true) (ws : List Jvm.Cond) (a1 a2 : Addr) (ra da rb db : Int64) (h0 : Heap) (n0 : Nat) (Z0 : n0 ≤ h0.size) (E2 : Exa Z h0 a2 "com/example/tollwright/tollwright/planner/Contract") (F1 : Fld Z h0 a1 "com/example/tollwright/tollwright/planner/Contract" "rate" "J" (.long ra)) (F2 : Fld Z h0 a1 "com/example/tollwright/tollwright/planner/Contract" "depth" "J" (.long da)) (F3 : Fld Z h0 a2 "com/example/tollwright/tollwright/planner/Contract" "rate" "J" (.long rb)) (F4 : Fld Z h0 a2 "com/example/tollwright/tollwright/planner/Contract" "depth" "J" (.long db)) :
    MetFree l (⟨"com/example/tollwright/tollwright/planner/Contract", "equals", "(Ljava/lang/Object;)Z"⟩ : MethodName) (head1 (Jvm.Cond.code (⟨"com/example/tollwright/tollwright/planner/Contract", "equals", "(Ljava/lang/Object;)Z"⟩ : MethodName) prog_27_method_4_code 2 (some .boolean) :: ws) ({ frames := 0, cells := 0, slots := 0, locals := 0 } : Room)) (fun a U => a = #[(.ref a1), (.ref a2)] ∧ Z.Warmed39 U.vm ∧ U.heap = h0) (fun _ _ _ _ _ => True) (fun _ U o U' => ∃ v L, o = .returned v ∧ own_Q5 Z a1 a2 ra da rb db h0 n0 v U'.heap L ∧ FrameEnd U o U' L ({ frames := 0, cells := 0, slots := 0, locals := 0 } : Room).cells ({ frames := 0, cells := 0, slots := 0, locals := 0 } : Room).slots) := by
  refine MetFree.of_bodySF (plainFor_of_name pn_5) hisR ?_
  intro p e s m args below meth c s₁ Bd hml0 hP hK
  obtain ⟨rfl, hZ, hh⟩ := hP
  have hx := Bd.exec
  have hby := Bd.bytes
  have hml : c.maxLocals = 2 := hml0
  have hown : s.vm.findClass "com/example/tollwright/tollwright/planner/Contract" = some m.cls := findClass_of_methodNamed Bd.named
  have hnm := (name_of_methodNamed Bd.named Bd.method).1
  have X0 : Stand p l e ({ frames := 0, cells := 0, slots := 0, locals := 0 } : Room) s m #[(.ref a1), (.ref a2)] below meth c s₁ [] 0 0 := Stand.of_body Bd
  have e0 : s₁.heap = h0 := by rw [← hh, Bd.state]; rfl
  have N0 := Fr.nil n0
  have pre0 : ∀ tq, Steps p.tables e below (s₁.setTop (mkF m 0 #[.val (.ref a1), .val (.ref a2)] [])) tq → Steps p.tables e below (s₁.setTop (entryFrame m #[(.ref a1), (.ref a2)] 2)) tq := fun tq k => castTop (ef_5 m a1 a2) k
  obtain ⟨T1, X1, e1, st1⟩ := instY X0 hx hZ hown (hw _ (List.mem_of_getElem? (i := 31) rfl)) e0 (Ins.self E2) (g := (mkF m 1 #[.val (.ref a1), .val (.ref a2)] [(.ref a2)])) rfl rfl (hb hby d5_1)
  obtain ⟨T2, X2, e2, st2⟩ := castY X1 hx hZ hown (hw _ (List.mem_of_getElem? (i := 31) rfl)) e1 (Ins.self E2) (g := (mkF m 8 #[.val (.ref a1), .val (.ref a2)] [(.ref a2)])) rfl rfl (hb hby d5_8)
  obtain ⟨T3, X3, e3, st3⟩ := getF X2 hx hZ hown (host := "") (Or.inl (hw _ (List.mem_of_getElem? (i := 14) rfl))) Via.refl e2 F3 (g := (mkF m 11 #[.val (.ref a1), .val (.ref a2)] [(.ref a2)])) rfl rfl (hb hby d5_11)
  obtain ⟨T4, X4, e4, st4⟩ := getF X3 hx hZ hown (host := "") (Or.inl (hw _ (List.mem_of_getElem? (i := 14) rfl))) Via.refl e3 F1 (g := (mkF m 15 #[.val (.ref a1), .val (.ref a2)] [(.ref a1), (.long rb)])) rfl rfl (hb hby d5_15)
  have k5 : ∀ tq, Steps p.tables e below (T4.setTop (mkF m 19 #[.val (.ref a1), .val (.ref a2)] [(.int (lcmpW rb ra))])) tq → Steps p.tables e below (s₁.setTop (entryFrame m #[(.ref a1), (.ref a2)] 2)) tq := by
    intro tq kt
    refine pre0 tq ?_
    show Steps p.tables e below (s₁.setTop (mkF m 0 #[.val (.ref a1), .val (.ref a2)] [])) _
    refine XS.aloadN X0.here hx rfl (hb hby d5_0) rfl rfl ?_
    show Steps p.tables e below (s₁.setTop (mkF m 1 #[.val (.ref a1), .val (.ref a2)] [(.ref a2)])) _
    refine st1 _ ?_
    show Steps p.tables e below (T1.setTop (mkF m 4 #[.val (.ref a1), .val (.ref a2)] [(.int (1 : Int32))])) _
    refine XS.ifNo X1.here hx rfl (hb hby d5_4) rfl ((if0 _ _).trans (feq (by decide : ¬ ((1 : Int32) = (0 : Int32)))).1) ?_
    show Steps p.tables e below (T1.setTop (mkF m 7 #[.val (.ref a1), .val (.ref a2)] [])) _
    refine XS.aloadN X1.here hx rfl (hb hby d5_7) rfl rfl ?_
    show Steps p.tables e below (T1.setTop (mkF m 8 #[.val (.ref a1), .val (.ref a2)] [(.ref a2)])) _
    refine st2 _ ?_
    show Steps p.tables e below (T2.setTop (mkF m 11 #[.val (.ref a1), .val (.ref a2)] [(.ref a2)])) _
    refine st3 _ ?_
    show Steps p.tables e below (T3.setTop (mkF m 14 #[.val (.ref a1), .val (.ref a2)] [(.long rb)])) _
    refine XS.aloadN X3.here hx rfl (hb hby d5_14) rfl rfl ?_
    show Steps p.tables e below (T3.setTop (mkF m 15 #[.val (.ref a1), .val (.ref a2)] [(.ref a1), (.long rb)])) _
    refine st4 _ ?_
    show Steps p.tables e below (T4.setTop (mkF m 18 #[.val (.ref a1), .val (.ref a2)] [(.long ra), (.long rb)])) _
    refine XS.lcmp X4.here hx rfl (hb hby d5_18) rfl ?_
    exact kt
  by_cases hc6 : (lcmpW rb ra) = (0 : Int32)
  · obtain ⟨T7, X7, e7, st7⟩ := castY X4 hx hZ hown (hw _ (List.mem_of_getElem? (i := 31) rfl)) e4 (Ins.self E2) (g := (mkF m 23 #[.val (.ref a1), .val (.ref a2)] [(.ref a2)])) rfl rfl (hb hby d5_23)
    obtain ⟨T8, X8, e8, st8⟩ := getF X7 hx hZ hown (host := "") (Or.inl (hw _ (List.mem_of_getElem? (i := 16) rfl))) Via.refl e7 F4 (g := (mkF m 26 #[.val (.ref a1), .val (.ref a2)] [(.ref a2)])) rfl rfl (hb hby d5_26)
    obtain ⟨T9, X9, e9, st9⟩ := getF X8 hx hZ hown (host := "") (Or.inl (hw _ (List.mem_of_getElem? (i := 16) rfl))) Via.refl e8 F2 (g := (mkF m 30 #[.val (.ref a1), .val (.ref a2)] [(.ref a1), (.long db)])) rfl rfl (hb hby d5_30)
    have k10 : ∀ tq, Steps p.tables e below (T9.setTop (mkF m 34 #[.val (.ref a1), .val (.ref a2)] [(.int (lcmpW db da))])) tq → Steps p.tables e below (s₁.setTop (entryFrame m #[(.ref a1), (.ref a2)] 2)) tq := by
      intro tq kt
      refine k5 tq ?_
      show Steps p.tables e below (T4.setTop (mkF m 19 #[.val (.ref a1), .val (.ref a2)] [(.int (lcmpW rb ra))])) _
      refine XS.ifNo X4.here hx rfl (hb hby d5_19) rfl ((if0 _ _).trans (teq hc6).2) ?_
      show Steps p.tables e below (T4.setTop (mkF m 22 #[.val (.ref a1), .val (.ref a2)] [])) _
      refine XS.aloadN X4.here hx rfl (hb hby d5_22) rfl rfl ?_
      show Steps p.tables e below (T4.setTop (mkF m 23 #[.val (.ref a1), .val (.ref a2)] [(.ref a2)])) _
      refine st7 _ ?_
      show Steps p.tables e below (T7.setTop (mkF m 26 #[.val (.ref a1), .val (.ref a2)] [(.ref a2)])) _
      refine st8 _ ?_
      show Steps p.tables e below (T8.setTop (mkF m 29 #[.val (.ref a1), .val (.ref a2)] [(.long db)])) _
      refine XS.aloadN X8.here hx rfl (hb hby d5_29) rfl rfl ?_
      show Steps p.tables e below (T8.setTop (mkF m 30 #[.val (.ref a1), .val (.ref a2)] [(.ref a1), (.long db)])) _
      refine st9 _ ?_
      show Steps p.tables e below (T9.setTop (mkF m 33 #[.val (.ref a1), .val (.ref a2)] [(.long da), (.long db)])) _
      refine XS.lcmp X9.here hx rfl (hb hby d5_33) rfl ?_
      exact kt
    by_cases hc11 : (lcmpW db da) = (0 : Int32)
    · obtain ⟨fs, hr, hrun, hended, hW, hsame⟩ := X9.leave (v := some (.int (1 : Int32))) (fun h => by rw [Bd.returns] at h; cases h)
      refine ⟨_, _, k10 _ ?_, hrun, hended, _, _, rfl, ?_, ⟨_, rfl⟩, hW, hsame.mono (by decide) (by decide)⟩
      · show Steps p.tables e below (T9.setTop (mkF m 34 #[.val (.ref a1), .val (.ref a2)] [(.int (lcmpW db da))])) _
        refine XS.ifNo X9.here hx rfl (hb hby d5_34) rfl ((if0 _ _).trans (teq hc11).2) ?_
        show Steps p.tables e below (T9.setTop (mkF m 37 #[.val (.ref a1), .val (.ref a2)] [])) _
        refine XS.iconst X9.here hx rfl (hb hby d5_37) ?_
        show Steps p.tables e below (T9.setTop (mkF m 38 #[.val (.ref a1), .val (.ref a2)] [(.int (1 : Int32))])) _
        refine XS.goto X9.here hx rfl (pc0 := 38) (pc' := 42) rfl (hb hby d5_38) (by decide) (by decide) ?_
        show Steps p.tables e below (T9.setTop (mkF m 42 #[.val (.ref a1), .val (.ref a2)] [(.int (1 : Int32))])) _
        exact retN X9 hx (t := .boolean) Bd.returns (by simp) (hb hby d5_42) hr
      · show own_Q5 Z a1 a2 ra da rb db h0 n0 _ T9.heap _
        rw [e9]
        exact ⟨congrArg (fun z => some (Value.int z)) (show (1 : Int32) = own_eq ra da rb db from by unfold own_eq; rw [if_pos hc6]; rw [if_pos hc11]), N0, rfl⟩
    · obtain ⟨fs, hr, hrun, hended, hW, hsame⟩ := X9.leave (v := some (.int (0 : Int32))) (fun h => by rw [Bd.returns] at h; cases h)
      refine ⟨_, _, k10 _ ?_, hrun, hended, _, _, rfl, ?_, ⟨_, rfl⟩, hW, hsame.mono (by decide) (by decide)⟩
      · show Steps p.tables e below (T9.setTop (mkF m 34 #[.val (.ref a1), .val (.ref a2)] [(.int (lcmpW db da))])) _
        refine XS.ifYes X9.here hx rfl (pc0 := 34) (pc' := 41) rfl (hb hby d5_34) rfl ((if0 _ _).trans (feq hc11).2) (by decide) (by decide) ?_
        show Steps p.tables e below (T9.setTop (mkF m 41 #[.val (.ref a1), .val (.ref a2)] [])) _
        refine XS.iconst X9.here hx rfl (hb hby d5_41) ?_
        show Steps p.tables e below (T9.setTop (mkF m 42 #[.val (.ref a1), .val (.ref a2)] [(.int (0 : Int32))])) _
        exact retN X9 hx (t := .boolean) Bd.returns (by simp) (hb hby d5_42) hr
      · show own_Q5 Z a1 a2 ra da rb db h0 n0 _ T9.heap _
        rw [e9]
        exact ⟨congrArg (fun z => some (Value.int z)) (show (0 : Int32) = own_eq ra da rb db from by unfold own_eq; rw [if_pos hc6]; rw [if_neg hc11]), N0, rfl⟩
  · obtain ⟨fs, hr, hrun, hended, hW, hsame⟩ := X4.leave (v := some (.int (0 : Int32))) (fun h => by rw [Bd.returns] at h; cases h)
    refine ⟨_, _, k5 _ ?_, hrun, hended, _, _, rfl, ?_, ⟨_, rfl⟩, hW, hsame.mono (by decide) (by decide)⟩
    · show Steps p.tables e below (T4.setTop (mkF m 19 #[.val (.ref a1), .val (.ref a2)] [(.int (lcmpW rb ra))])) _
      refine XS.ifYes X4.here hx rfl (pc0 := 19) (pc' := 41) rfl (hb hby d5_19) rfl ((if0 _ _).trans (feq hc6).2) (by decide) (by decide) ?_
      show Steps p.tables e below (T4.setTop (mkF m 41 #[.val (.ref a1), .val (.ref a2)] [])) _
      refine XS.iconst X4.here hx rfl (hb hby d5_41) ?_
      show Steps p.tables e below (T4.setTop (mkF m 42 #[.val (.ref a1), .val (.ref a2)] [(.int (0 : Int32))])) _
      exact retN X4 hx (t := .boolean) Bd.returns (by simp) (hb hby d5_42) hr
    · show own_Q5 Z a1 a2 ra da rb db h0 n0 _ T4.heap _
      rw [e4]
      exact ⟨congrArg (fun z => some (Value.int z)) (show (0 : Int32) = own_eq ra da rb db from by unfold own_eq; rw [if_neg hc6]), N0, rfl⟩
def own_QZ (Z : State) (a1 : Addr) := own_QI 0 Z
def own_QZ2 (Z : State) (a1 a2 : Addr) := own_QI 0 Z
theorem ef_5_vn (m : MethodId) (x0 : Addr) : entryFrame m #[(.ref x0), .null] 2 = mkF m 0 #[.val (.ref x0), .val .null] [] := by first | (simp [entryFrame, mkF, argsToLocals, Value.category]; done) | rfl
set_option maxRecDepth 65536 in
set_option maxHeartbeats 40000000 in
theorem rmEn (l : Launch) (Z : State) (a0 : Array Value) (hw : ∀ d ∈ tables_1, d.before a0 Z = true) (ws : List Jvm.Cond) (a1 : Addr) (h0 : Heap) (n0 : Nat) (Z0 : n0 ≤ h0.size) :
    MetFree l (⟨"com/example/tollwright/tollwright/planner/Contract", "equals", "(Ljava/lang/Object;)Z"⟩ : MethodName) (head1 (Jvm.Cond.code (⟨"com/example/tollwright/tollwright/planner/Contract", "equals", "(Ljava/lang/Object;)Z"⟩ : MethodName) prog_27_method_4_code 2 (some .boolean) :: ws) ({ frames := 0, cells := 0, slots := 0, locals := 0 } : Room)) (fun a U => a = #[(.ref a1), .null] ∧ Z.Warmed39 U.vm ∧ U.heap = h0) (fun _ _ _ _ _ => True) (fun _ U o U' => ∃ v L, o = .returned v ∧ own_QZ Z a1 h0 n0 v U'.heap L ∧ FrameEnd U o U' L ({ frames := 0, cells := 0, slots := 0, locals := 0 } : Room).cells ({ frames := 0, cells := 0, slots := 0, locals := 0 } : Room).slots) := by
  refine MetFree.of_bodySF (plainFor_of_name pn_5) hisR ?_
  intro p e s m args below meth c s₁ Bd hml0 hP hK
  obtain ⟨rfl, hZ, hh⟩ := hP
  have hx := Bd.exec
  have hby := Bd.bytes
  have hml : c.maxLocals = 2 := hml0
  have hown : s.vm.findClass "com/example/tollwright/tollwright/planner/Contract" = some m.cls := findClass_of_methodNamed Bd.named
  have hnm := (name_of_methodNamed Bd.named Bd.method).1
  have X0 : Stand p l e ({ frames := 0, cells := 0, slots := 0, locals := 0 } : Room) s m #[(.ref a1), .null] below meth c s₁ [] 0 0 := Stand.of_body Bd
  have e0 : s₁.heap = h0 := by rw [← hh, Bd.state]; rfl
  have N0 := Fr.nil n0
  have pre0 : ∀ tq, Steps p.tables e below (s₁.setTop (mkF m 0 #[.val (.ref a1), .val .null] [])) tq → Steps p.tables e below (s₁.setTop (entryFrame m #[(.ref a1), .null] 2)) tq := fun tq k => castTop (ef_5_vn m a1) k
  obtain ⟨fs, hr, hrun, hended, hW, hsame⟩ := X0.leave (v := some (.int (0 : Int32))) (fun h => by rw [Bd.returns] at h; cases h)
  refine ⟨_, _, pre0 _ ?_, hrun, hended, _, _, rfl, ?_, ⟨_, rfl⟩, hW, hsame.mono (by decide) (by decide)⟩
  · show Steps p.tables e below (s₁.setTop (mkF m 0 #[.val (.ref a1), .val .null] [])) _
    refine XS.aloadN X0.here hx rfl (hb hby d5_0) rfl rfl ?_
    show Steps p.tables e below (s₁.setTop (mkF m 1 #[.val (.ref a1), .val .null] [.null])) _
    refine X0.instanceofNull hx (g := (mkF m 1 #[.val (.ref a1), .val .null] [.null])) rfl rfl (hb hby d5_1) _ ?_
    show Steps p.tables e below (s₁.setTop (mkF m 4 #[.val (.ref a1), .val .null] [(.int (0 : Int32))])) _
    refine XS.ifYes X0.here hx rfl (pc0 := 4) (pc' := 41) rfl (hb hby d5_4) rfl ((if0 _ _).trans (teq (rfl : (0 : Int32) = (0 : Int32))).1) (by decide) (by decide) ?_
    show Steps p.tables e below (s₁.setTop (mkF m 41 #[.val (.ref a1), .val .null] [])) _
    refine XS.iconst X0.here hx rfl (hb hby d5_41) ?_
    show Steps p.tables e below (s₁.setTop (mkF m 42 #[.val (.ref a1), .val .null] [(.int (0 : Int32))])) _
    exact retN X0 hx (t := .boolean) Bd.returns (by simp) (hb hby d5_42) hr
  · show own_QZ Z a1 h0 n0 _ s₁.heap _
    rw [e0]
    exact ⟨rfl, N0, rfl⟩
set_option maxRecDepth 65536 in
set_option maxHeartbeats 40000000 in
theorem rmEl (l : Launch) (Z : State) (a0 : Array Value) (hw : ∀ d ∈ tables_1, d.before a0 Z = true) (ws : List Jvm.Cond) (a1 a2 : Addr) (h0 : Heap) (n0 : Nat) (Z0 : n0 ≤ h0.size) (E2 : Exa Z h0 a2 "java/lang/Long") (hno : own_No Z "java/lang/Long" "com/example/tollwright/tollwright/planner/Contract") :
    MetFree l (⟨"com/example/tollwright/tollwright/planner/Contract", "equals", "(Ljava/lang/Object;)Z"⟩ : MethodName) (head1 (Jvm.Cond.code (⟨"com/example/tollwright/tollwright/planner/Contract", "equals", "(Ljava/lang/Object;)Z"⟩ : MethodName) prog_27_method_4_code 2 (some .boolean) :: ws) ({ frames := 0, cells := 0, slots := 0, locals := 0 } : Room)) (fun a U => a = #[(.ref a1), (.ref a2)] ∧ Z.Warmed39 U.vm ∧ U.heap = h0) (fun _ _ _ _ _ => True) (fun _ U o U' => ∃ v L, o = .returned v ∧ own_QZ2 Z a1 a2 h0 n0 v U'.heap L ∧ FrameEnd U o U' L ({ frames := 0, cells := 0, slots := 0, locals := 0 } : Room).cells ({ frames := 0, cells := 0, slots := 0, locals := 0 } : Room).slots) := by
  refine MetFree.of_bodySF (plainFor_of_name pn_5) hisR ?_
  intro p e s m args below meth c s₁ Bd hml0 hP hK
  obtain ⟨rfl, hZ, hh⟩ := hP
  have hx := Bd.exec
  have hby := Bd.bytes
  have hml : c.maxLocals = 2 := hml0
  have hown : s.vm.findClass "com/example/tollwright/tollwright/planner/Contract" = some m.cls := findClass_of_methodNamed Bd.named
  have hnm := (name_of_methodNamed Bd.named Bd.method).1
  have X0 : Stand p l e ({ frames := 0, cells := 0, slots := 0, locals := 0 } : Room) s m #[(.ref a1), (.ref a2)] below meth c s₁ [] 0 0 := Stand.of_body Bd
  have e0 : s₁.heap = h0 := by rw [← hh, Bd.state]; rfl
  have N0 := Fr.nil n0
  have pre0 : ∀ tq, Steps p.tables e below (s₁.setTop (mkF m 0 #[.val (.ref a1), .val (.ref a2)] [])) tq → Steps p.tables e below (s₁.setTop (entryFrame m #[(.ref a1), (.ref a2)] 2)) tq := fun tq k => castTop (ef_5 m a1 a2) k
  obtain ⟨T1, X1, e1, st1⟩ := instNo X0 hx hZ hown (hw _ (List.mem_of_getElem? (i := 31) rfl)) e0 E2 hno (g := (mkF m 1 #[.val (.ref a1), .val (.ref a2)] [(.ref a2)])) rfl rfl (hb hby d5_1)
  obtain ⟨fs, hr, hrun, hended, hW, hsame⟩ := X1.leave (v := some (.int (0 : Int32))) (fun h => by rw [Bd.returns] at h; cases h)
  refine ⟨_, _, pre0 _ ?_, hrun, hended, _, _, rfl, ?_, ⟨_, rfl⟩, hW, hsame.mono (by decide) (by decide)⟩
  · show Steps p.tables e below (s₁.setTop (mkF m 0 #[.val (.ref a1), .val (.ref a2)] [])) _
    refine XS.aloadN X0.here hx rfl (hb hby d5_0) rfl rfl ?_
    show Steps p.tables e below (s₁.setTop (mkF m 1 #[.val (.ref a1), .val (.ref a2)] [(.ref a2)])) _
    refine st1 _ ?_
    show Steps p.tables e below (T1.setTop (mkF m 4 #[.val (.ref a1), .val (.ref a2)] [(.int (0 : Int32))])) _
    refine XS.ifYes X1.here hx rfl (pc0 := 4) (pc' := 41) rfl (hb hby d5_4) rfl ((if0 _ _).trans (teq (rfl : (0 : Int32) = (0 : Int32))).1) (by decide) (by decide) ?_
    show Steps p.tables e below (T1.setTop (mkF m 41 #[.val (.ref a1), .val (.ref a2)] [])) _
    refine XS.iconst X1.here hx rfl (hb hby d5_41) ?_
    show Steps p.tables e below (T1.setTop (mkF m 42 #[.val (.ref a1), .val (.ref a2)] [(.int (0 : Int32))])) _
    exact retN X1 hx (t := .boolean) Bd.returns (by simp) (hb hby d5_42) hr
  · show own_QZ2 Z a1 a2 h0 n0 _ T1.heap _
    rw [e1]
    exact ⟨rfl, N0, rfl⟩
def own_Q0 (Z : State) (r1 d1 r2 d2 : Int64) (fl : Int32) (h0 : Heap) (n0 : Nat) (v : Option Value) (h : Heap) (L : List Loc) : Prop := v = some (.int 1) ∧ Fr n0 L
theorem pn_0 : plainName "com/example/tollwright/tollwright/planner/ContractEqualsPinLaw" = true := by first | (simp [plainName, overriddenIn]; done) | decide +kernel
theorem ef_0 (m : MethodId) (x0 : Int64) (x1 : Int64) (x2 : Int64) (x3 : Int64) (x4 : Int32) : entryFrame m #[(.long x0), (.long x1), (.long x2), (.long x3), (.int x4)] maxLocals = mkF m 0 #[.val (.long x0), .second, .val (.long x1), .second, .val (.long x2), .second, .val (.long x3), .second, .val (.int x4), .unset, .unset, .unset, .unset, .unset, .unset, .unset, .unset, .unset, .unset, .unset, .unset] [] := by first | (simp [entryFrame, mkF, argsToLocals, Value.category, maxLocals]; done) | rfl
set_option maxRecDepth 65536 in
set_option maxHeartbeats 40000000 in
theorem rm0 (l : Launch) (Z : State) (a0 : Array Value) (hw : ∀ d ∈ tables_1, d.before a0 Z = true) (ws : List Jvm.Cond) (r1 d1 r2 d2 : Int64) (fl : Int32) (ca : Addr) (cl : Cell) (h0 : Heap) (n0 : Nat) (Z0 : n0 ≤ h0.size) (S_c : Sta Z h0 "java/lang/Long$LongCache" "cache" "[Ljava/lang/Long;" (.ref ca)) (Ar : Arr Z h0 ca cl (.object "java/lang/Long")) (Ca : own_Cache Z h0 cl) :
    MetFree l x (head1 (Jvm.Cond.code x code maxLocals ret :: ws) room_1) (fun a U => a = #[(.long r1), (.long d1), (.long r2), (.long d2), (.int fl)] ∧ Z.Warmed39 U.vm ∧ U.heap = h0) (fun _ _ _ _ _ => True) (fun _ U o U' => ∃ v L, o = .returned v ∧ own_Q0 Z r1 d1 r2 d2 fl h0 n0 v U'.heap L ∧ FrameEnd U o U' L room_1.cells room_1.slots) := by
  refine MetFree.of_bodySF (plainFor_of_name pn_0) hisR ?_
  intro p e s m args below meth c s₁ Bd hml0 hP hK
  obtain ⟨rfl, hZ, hh⟩ := hP
  have hx := Bd.exec
  have hby := Bd.bytes
  have hml : c.maxLocals = 21 := hml0
  have hown : s.vm.findClass "com/example/tollwright/tollwright/planner/ContractEqualsPinLaw" = some m.cls := findClass_of_methodNamed Bd.named
  have hnm := (name_of_methodNamed Bd.named Bd.method).1
  have X0 : Stand p l e room_1 s m #[(.long r1), (.long d1), (.long r2), (.long d2), (.int fl)] below meth c s₁ [] 0 0 := Stand.of_body Bd
  have e0 : s₁.heap = h0 := by rw [← hh, Bd.state]; rfl
  have N0 := Fr.nil n0
  have pre0 : ∀ tq, Steps p.tables e below (s₁.setTop (mkF m 0 #[.val (.long r1), .second, .val (.long d1), .second, .val (.long r2), .second, .val (.long d2), .second, .val (.int fl), .unset, .unset, .unset, .unset, .unset, .unset, .unset, .unset, .unset, .unset, .unset, .unset] [])) tq → Steps p.tables e below (s₁.setTop (entryFrame m #[(.long r1), (.long d1), (.long r2), (.long d2), (.int fl)] maxLocals)) tq := fun tq k => castTop (ef_0 m r1 d1 r2 d2 fl) k
  have hno : own_No Z "java/lang/Long" "com/example/tollwright/tollwright/planner/Contract" := own_no (hw _ (List.mem_of_getElem? (i := 33) rfl)) (hw _ (List.mem_of_getElem? (i := 6) rfl)) (NS.step (hw _ (List.mem_of_getElem? (i := 33) rfl)) (NS.step (hw _ (List.mem_of_getElem? (i := 34) rfl)) (own_root (hw _ (List.mem_of_getElem? (i := 35) rfl)) (hw _ (List.mem_of_getElem? (i := 6) rfl)) (by decide)) (by decide)) (by decide)) (by decide)
  obtain ⟨_, _, ⟨T1, L1, k1, n1⟩, -, X1, ⟨Lc1, hQ1, l1, y1, z1⟩, st1⟩ := Jvm.LawKit.callS X0 hx (y := (⟨"com/example/tollwright/tollwright/planner/ContractEqualsPinLaw", "positive", "(J)J"⟩ : MethodName)) hown (mvT hZ (hw _ (List.mem_of_getElem? (i := 0) rfl))) (mvT hZ (hw _ (List.mem_of_getElem? (i := 1) rfl))) (mvT hZ (hw _ (List.mem_of_getElem? (i := 2) rfl))) (mvT hZ (hw _ (List.mem_of_getElem? (i := 3) rfl))) (by decide) (backOf (W := 0) (rm1 l Z a0 hw [] r1 h0 n0 Z0) hZ (hw _ (List.mem_of_getElem? (i := 3) rfl)) (hw _ (List.mem_of_getElem? (i := 2) rfl)) (by decide) (by decide)) (g := (mkF m 1 #[.val (.long r1), .second, .val (.long d1), .second, .val (.long r2), .second, .val (.long d2), .second, .val (.int fl), .unset, .unset, .unset, .unset, .unset, .unset, .unset, .unset, .unset, .unset, .unset, .unset] [(.long r1)])) rfl (by rw [hml]; rfl) (argsL := [(.long r1)]) (rest := []) (lenOf pd_0 rfl) rfl (by show 2 * 0 + _ ≤ _; exact Nat.le_of_eq rfl) (hb hby at_1) (fun _ _ => ⟨rfl, e0, (by decide : 0 + 0 ≤ _), (by decide : 0 + 0 ≤ _)⟩)
  dsimp only [Pt.U, Pt.locs, Pt.cells, Pt.slots] at X1 l1 y1 z1 st1 hQ1
  subst l1 y1 z1
  obtain ⟨rfl, N1q, e1⟩ := hQ1
  have N1 := Fr.app N0 N1q
  have k2 : ∀ tq, Steps p.tables e below (T1.setTop (mkF m 17 #[.val (.long r1), .second, .val (.long d1), .second, .val (.long r2), .second, .val (.long d2), .second, .val (.int fl), .val (.long (own_vr r1)), .second, .val (.long (d1 &&& (9223372036854775807 : Int64))), .second, .unset, .unset, .unset, .unset, .unset, .unset, .unset, .unset] [(.int (fl &&& (1 : Int32)))])) tq → Steps p.tables e below (s₁.setTop (entryFrame m #[(.long r1), (.long d1), (.long r2), (.long d2), (.int fl)] maxLocals)) tq := by
    intro tq kt
    refine pre0 tq ?_
    show Steps p.tables e below (s₁.setTop (mkF m 0 #[.val (.long r1), .second, .val (.long d1), .second, .val (.long r2), .second, .val (.long d2), .second, .val (.int fl), .unset, .unset, .unset, .unset, .unset, .unset, .unset, .unset, .unset, .unset, .unset, .unset] [])) _
    refine XS.lloadN X0.here hx rfl (hb hby at_0) rfl ?_
    show Steps p.tables e below (s₁.setTop (mkF m 1 #[.val (.long r1), .second, .val (.long d1), .second, .val (.long r2), .second, .val (.long d2), .second, .val (.int fl), .unset, .unset, .unset, .unset, .unset, .unset, .unset, .unset, .unset, .unset, .unset, .unset] [(.long r1)])) _
    refine st1 _ ?_
    show Steps p.tables e below (T1.setTop (mkF m 4 #[.val (.long r1), .second, .val (.long d1), .second, .val (.long r2), .second, .val (.long d2), .second, .val (.int fl), .unset, .unset, .unset, .unset, .unset, .unset, .unset, .unset, .unset, .unset, .unset, .unset] [(.long (own_vr r1))])) _
    refine XS.lstore X1.here hx rfl (hb hby at_4) rfl (l' := #[.val (.long r1), .second, .val (.long d1), .second, .val (.long r2), .second, .val (.long d2), .second, .val (.int fl), .val (.long (own_vr r1)), .second, .unset, .unset, .unset, .unset, .unset, .unset, .unset, .unset, .unset, .unset]) rfl ?_
    show Steps p.tables e below (T1.setTop (mkF m 6 #[.val (.long r1), .second, .val (.long d1), .second, .val (.long r2), .second, .val (.long d2), .second, .val (.int fl), .val (.long (own_vr r1)), .second, .unset, .unset, .unset, .unset, .unset, .unset, .unset, .unset, .unset, .unset] [])) _
    refine XS.lloadN X1.here hx rfl (hb hby at_6) rfl ?_
    show Steps p.tables e below (T1.setTop (mkF m 7 #[.val (.long r1), .second, .val (.long d1), .second, .val (.long r2), .second, .val (.long d2), .second, .val (.int fl), .val (.long (own_vr r1)), .second, .unset, .unset, .unset, .unset, .unset, .unset, .unset, .unset, .unset, .unset] [(.long d1)])) _
    refine X1.ldc2Long hx hown (mvT hZ (hw _ (List.mem_of_getElem? (i := 4) rfl))) (g := (mkF m 7 #[.val (.long r1), .second, .val (.long d1), .second, .val (.long r2), .second, .val (.long d2), .second, .val (.int fl), .val (.long (own_vr r1)), .second, .unset, .unset, .unset, .unset, .unset, .unset, .unset, .unset, .unset, .unset] [(.long d1)])) rfl (hb hby at_7) _ ?_
    show Steps p.tables e below (T1.setTop (mkF m 10 #[.val (.long r1), .second, .val (.long d1), .second, .val (.long r2), .second, .val (.long d2), .second, .val (.int fl), .val (.long (own_vr r1)), .second, .unset, .unset, .unset, .unset, .unset, .unset, .unset, .unset, .unset, .unset] [(.long (9223372036854775807 : Int64)), (.long d1)])) _
    refine XS.land X1.here hx rfl (hb hby at_10) rfl ?_
    show Steps p.tables e below (T1.setTop (mkF m 11 #[.val (.long r1), .second, .val (.long d1), .second, .val (.long r2), .second, .val (.long d2), .second, .val (.int fl), .val (.long (own_vr r1)), .second, .unset, .unset, .unset, .unset, .unset, .unset, .unset, .unset, .unset, .unset] [(.long (d1 &&& (9223372036854775807 : Int64)))])) _
    refine XS.lstore X1.here hx rfl (hb hby at_11) rfl (l' := #[.val (.long r1), .second, .val (.long d1), .second, .val (.long r2), .second, .val (.long d2), .second, .val (.int fl), .val (.long (own_vr r1)), .second, .val (.long (d1 &&& (9223372036854775807 : Int64))), .second, .unset, .unset, .unset, .unset, .unset, .unset, .unset, .unset]) rfl ?_
    show Steps p.tables e below (T1.setTop (mkF m 13 #[.val (.long r1), .second, .val (.long d1), .second, .val (.long r2), .second, .val (.long d2), .second, .val (.int fl), .val (.long (own_vr r1)), .second, .val (.long (d1 &&& (9223372036854775807 : Int64))), .second, .unset, .unset, .unset, .unset, .unset, .unset, .unset, .unset] [])) _
    refine XS.iload X1.here hx rfl (hb hby at_13) rfl ?_
    show Steps p.tables e below (T1.setTop (mkF m 15 #[.val (.long r1), .second, .val (.long d1), .second, .val (.long r2), .second, .val (.long d2), .second, .val (.int fl), .val (.long (own_vr r1)), .second, .val (.long (d1 &&& (9223372036854775807 : Int64))), .second, .unset, .unset, .unset, .unset, .unset, .unset, .unset, .unset] [(.int fl)])) _
    refine XS.iconst X1.here hx rfl (hb hby at_15) ?_
    show Steps p.tables e below (T1.setTop (mkF m 16 #[.val (.long r1), .second, .val (.long d1), .second, .val (.long r2), .second, .val (.long d2), .second, .val (.int fl), .val (.long (own_vr r1)), .second, .val (.long (d1 &&& (9223372036854775807 : Int64))), .second, .unset, .unset, .unset, .unset, .unset, .unset, .unset, .unset] [(.int (1 : Int32)), (.int fl)])) _
    refine XS.iand X1.here hx rfl (hb hby at_16) rfl ?_
    exact kt
  by_cases hc3 : (fl &&& (1 : Int32)) = (0 : Int32)
  · obtain ⟨_, _, ⟨T4, L4, k4, n4⟩, -, X4, ⟨Lc4, hQ4, l4, y4, z4⟩, st4⟩ := Jvm.LawKit.callS X1 hx (y := (⟨"com/example/tollwright/tollwright/planner/ContractEqualsPinLaw", "positive", "(J)J"⟩ : MethodName)) hown (mvT hZ (hw _ (List.mem_of_getElem? (i := 0) rfl))) (mvT hZ (hw _ (List.mem_of_getElem? (i := 1) rfl))) (mvT hZ (hw _ (List.mem_of_getElem? (i := 2) rfl))) (mvT hZ (hw _ (List.mem_of_getElem? (i := 3) rfl))) (by decide) (backOf (W := 0) (rm1 l Z a0 hw [] r2 h0 n0 Z0) hZ (hw _ (List.mem_of_getElem? (i := 3) rfl)) (hw _ (List.mem_of_getElem? (i := 2) rfl)) (by decide) (by decide)) (g := (mkF m 27 #[.val (.long r1), .second, .val (.long d1), .second, .val (.long r2), .second, .val (.long d2), .second, .val (.int fl), .val (.long (own_vr r1)), .second, .val (.long (d1 &&& (9223372036854775807 : Int64))), .second, .unset, .unset, .unset, .unset, .unset, .unset, .unset, .unset] [(.long r2)])) rfl (by rw [hml]; rfl) (argsL := [(.long r2)]) (rest := []) (lenOf pd_0 rfl) rfl (by show 2 * 0 + _ ≤ _; exact Nat.le_of_eq rfl) (hb hby at_27) (fun _ _ => ⟨rfl, e1, (by decide : 0 + 0 ≤ _), (by decide : 0 + 0 ≤ _)⟩)
    dsimp only [Pt.U, Pt.locs, Pt.cells, Pt.slots] at X4 l4 y4 z4 st4 hQ4
    subst l4 y4 z4
    obtain ⟨rfl, N4q, e4⟩ := hQ4
    have N4 := Fr.app N1 N4q
    have k5 : ∀ tq, Steps p.tables e below (T4.setTop (mkF m 36 #[.val (.long r1), .second, .val (.long d1), .second, .val (.long r2), .second, .val (.long d2), .second, .val (.int fl), .val (.long (own_vr r1)), .second, .val (.long (d1 &&& (9223372036854775807 : Int64))), .second, .val (.long (own_vr r2)), .second, .unset, .unset, .unset, .unset, .unset, .unset] [(.int (fl &&& (2 : Int32)))])) tq → Steps p.tables e below (s₁.setTop (entryFrame m #[(.long r1), (.long d1), (.long r2), (.long d2), (.int fl)] maxLocals)) tq := by
      intro tq kt
      refine k2 tq ?_
      show Steps p.tables e below (T1.setTop (mkF m 17 #[.val (.long r1), .second, .val (.long d1), .second, .val (.long r2), .second, .val (.long d2), .second, .val (.int fl), .val (.long (own_vr r1)), .second, .val (.long (d1 &&& (9223372036854775807 : Int64))), .second, .unset, .unset, .unset, .unset, .unset, .unset, .unset, .unset] [(.int (fl &&& (1 : Int32)))])) _
      refine XS.ifYes X1.here hx rfl (pc0 := 17) (pc' := 25) rfl (hb hby at_17) rfl ((if0 _ _).trans (teq hc3).1) (by decide) (by decide) ?_
      show Steps p.tables e below (T1.setTop (mkF m 25 #[.val (.long r1), .second, .val (.long d1), .second, .val (.long r2), .second, .val (.long d2), .second, .val (.int fl), .val (.long (own_vr r1)), .second, .val (.long (d1 &&& (9223372036854775807 : Int64))), .second, .unset, .unset, .unset, .unset, .unset, .unset, .unset, .unset] [])) _
      refine XS.lload X1.here hx rfl (hb hby at_25) rfl ?_
      show Steps p.tables e below (T1.setTop (mkF m 27 #[.val (.long r1), .second, .val (.long d1), .second, .val (.long r2), .second, .val (.long d2), .second, .val (.int fl), .val (.long (own_vr r1)), .second, .val (.long (d1 &&& (9223372036854775807 : Int64))), .second, .unset, .unset, .unset, .unset, .unset, .unset, .unset, .unset] [(.long r2)])) _
      refine st4 _ ?_
      show Steps p.tables e below (T4.setTop (mkF m 30 #[.val (.long r1), .second, .val (.long d1), .second, .val (.long r2), .second, .val (.long d2), .second, .val (.int fl), .val (.long (own_vr r1)), .second, .val (.long (d1 &&& (9223372036854775807 : Int64))), .second, .unset, .unset, .unset, .unset, .unset, .unset, .unset, .unset] [(.long (own_vr r2))])) _
      refine XS.lstore X4.here hx rfl (hb hby at_30) rfl (l' := #[.val (.long r1), .second, .val (.long d1), .second, .val (.long r2), .second, .val (.long d2), .second, .val (.int fl), .val (.long (own_vr r1)), .second, .val (.long (d1 &&& (9223372036854775807 : Int64))), .second, .val (.long (own_vr r2)), .second, .unset, .unset, .unset, .unset, .unset, .unset]) rfl ?_
      show Steps p.tables e below (T4.setTop (mkF m 32 #[.val (.long r1), .second, .val (.long d1), .second, .val (.long r2), .second, .val (.long d2), .second, .val (.int fl), .val (.long (own_vr r1)), .second, .val (.long (d1 &&& (9223372036854775807 : Int64))), .second, .val (.long (own_vr r2)), .second, .unset, .unset, .unset, .unset, .unset, .unset] [])) _
      refine XS.iload X4.here hx rfl (hb hby at_32) rfl ?_
      show Steps p.tables e below (T4.setTop (mkF m 34 #[.val (.long r1), .second, .val (.long d1), .second, .val (.long r2), .second, .val (.long d2), .second, .val (.int fl), .val (.long (own_vr r1)), .second, .val (.long (d1 &&& (9223372036854775807 : Int64))), .second, .val (.long (own_vr r2)), .second, .unset, .unset, .unset, .unset, .unset, .unset] [(.int fl)])) _
      refine XS.iconst X4.here hx rfl (hb hby at_34) ?_
      show Steps p.tables e below (T4.setTop (mkF m 35 #[.val (.long r1), .second, .val (.long d1), .second, .val (.long r2), .second, .val (.long d2), .second, .val (.int fl), .val (.long (own_vr r1)), .second, .val (.long (d1 &&& (9223372036854775807 : Int64))), .second, .val (.long (own_vr r2)), .second, .unset, .unset, .unset, .unset, .unset, .unset] [(.int (2 : Int32)), (.int fl)])) _
      refine XS.iand X4.here hx rfl (hb hby at_35) rfl ?_
      exact kt
    obtain ⟨v7, hv7⟩ : ∃ z : Int64, z = if (fl &&& (2 : Int32)) = (0 : Int32) then (d2 &&& (9223372036854775807 : Int64)) else (d1 &&& (9223372036854775807 : Int64)) := ⟨_, rfl⟩
    have k8 : ∀ tq, Steps p.tables e below (T4.setTop (mkF m 50 #[.val (.long r1), .second, .val (.long d1), .second, .val (.long r2), .second, .val (.long d2), .second, .val (.int fl), .val (.long (own_vr r1)), .second, .val (.long (d1 &&& (9223372036854775807 : Int64))), .second, .val (.long (own_vr r2)), .second, .unset, .unset, .unset, .unset, .unset, .unset] [(.long v7)])) tq → Steps p.tables e below (s₁.setTop (entryFrame m #[(.long r1), (.long d1), (.long r2), (.long d2), (.int fl)] maxLocals)) tq := by
      intro tq kt
      by_cases hc6 : (fl &&& (2 : Int32)) = (0 : Int32)
      · rw [if_pos hc6] at hv7
        subst hv7
        refine k5 tq ?_
        show Steps p.tables e below (T4.setTop (mkF m 36 #[.val (.long r1), .second, .val (.long d1), .second, .val (.long r2), .second, .val (.long d2), .second, .val (.int fl), .val (.long (own_vr r1)), .second, .val (.long (d1 &&& (9223372036854775807 : Int64))), .second, .val (.long (own_vr r2)), .second, .unset, .unset, .unset, .unset, .unset, .unset] [(.int (fl &&& (2 : Int32)))])) _
        refine XS.ifYes X4.here hx rfl (pc0 := 36) (pc' := 44) rfl (hb hby at_36) rfl ((if0 _ _).trans (teq hc6).1) (by decide) (by decide) ?_
        show Steps p.tables e below (T4.setTop (mkF m 44 #[.val (.long r1), .second, .val (.long d1), .second, .val (.long r2), .second, .val (.long d2), .second, .val (.int fl), .val (.long (own_vr r1)), .second, .val (.long (d1 &&& (9223372036854775807 : Int64))), .second, .val (.long (own_vr r2)), .second, .unset, .unset, .unset, .unset, .unset, .unset] [])) _
        refine XS.lload X4.here hx rfl (hb hby at_44) rfl ?_
        show Steps p.tables e below (T4.setTop (mkF m 46 #[.val (.long r1), .second, .val (.long d1), .second, .val (.long r2), .second, .val (.long d2), .second, .val (.int fl), .val (.long (own_vr r1)), .second, .val (.long (d1 &&& (9223372036854775807 : Int64))), .second, .val (.long (own_vr r2)), .second, .unset, .unset, .unset, .unset, .unset, .unset] [(.long d2)])) _
        refine X4.ldc2Long hx hown (mvT hZ (hw _ (List.mem_of_getElem? (i := 4) rfl))) (g := (mkF m 46 #[.val (.long r1), .second, .val (.long d1), .second, .val (.long r2), .second, .val (.long d2), .second, .val (.int fl), .val (.long (own_vr r1)), .second, .val (.long (d1 &&& (9223372036854775807 : Int64))), .second, .val (.long (own_vr r2)), .second, .unset, .unset, .unset, .unset, .unset, .unset] [(.long d2)])) rfl (hb hby at_46) _ ?_
        show Steps p.tables e below (T4.setTop (mkF m 49 #[.val (.long r1), .second, .val (.long d1), .second, .val (.long r2), .second, .val (.long d2), .second, .val (.int fl), .val (.long (own_vr r1)), .second, .val (.long (d1 &&& (9223372036854775807 : Int64))), .second, .val (.long (own_vr r2)), .second, .unset, .unset, .unset, .unset, .unset, .unset] [(.long (9223372036854775807 : Int64)), (.long d2)])) _
        refine XS.land X4.here hx rfl (hb hby at_49) rfl ?_
        exact kt
      · rw [if_neg hc6] at hv7
        subst hv7
        refine k5 tq ?_
        show Steps p.tables e below (T4.setTop (mkF m 36 #[.val (.long r1), .second, .val (.long d1), .second, .val (.long r2), .second, .val (.long d2), .second, .val (.int fl), .val (.long (own_vr r1)), .second, .val (.long (d1 &&& (9223372036854775807 : Int64))), .second, .val (.long (own_vr r2)), .second, .unset, .unset, .unset, .unset, .unset, .unset] [(.int (fl &&& (2 : Int32)))])) _
        refine XS.ifNo X4.here hx rfl (hb hby at_36) rfl ((if0 _ _).trans (feq hc6).1) ?_
        show Steps p.tables e below (T4.setTop (mkF m 39 #[.val (.long r1), .second, .val (.long d1), .second, .val (.long r2), .second, .val (.long d2), .second, .val (.int fl), .val (.long (own_vr r1)), .second, .val (.long (d1 &&& (9223372036854775807 : Int64))), .second, .val (.long (own_vr r2)), .second, .unset, .unset, .unset, .unset, .unset, .unset] [])) _
        refine XS.lload X4.here hx rfl (hb hby at_39) rfl ?_
        show Steps p.tables e below (T4.setTop (mkF m 41 #[.val (.long r1), .second, .val (.long d1), .second, .val (.long r2), .second, .val (.long d2), .second, .val (.int fl), .val (.long (own_vr r1)), .second, .val (.long (d1 &&& (9223372036854775807 : Int64))), .second, .val (.long (own_vr r2)), .second, .unset, .unset, .unset, .unset, .unset, .unset] [(.long (d1 &&& (9223372036854775807 : Int64)))])) _
        refine XS.goto X4.here hx rfl (pc0 := 41) (pc' := 50) rfl (hb hby at_41) (by decide) (by decide) ?_
        exact kt
    have nv7 : ¬ v7 < (0 : Int64) := by rw [hv7]; split; exact own_mask d2; exact own_mask d1
    obtain ⟨T9, h9, X9, e9, E9, A9, D9, U9, st9⟩ := newO X4 hx hZ hown (hw _ (List.mem_of_getElem? (i := 5) rfl)) (hw _ (List.mem_of_getElem? (i := 6) rfl)) (hw _ (List.mem_of_getElem? (i := 7) rfl)) e4 (g := (mkF m 52 #[.val (.long r1), .second, .val (.long d1), .second, .val (.long r2), .second, .val (.long d2), .second, .val (.int fl), .val (.long (own_vr r1)), .second, .val (.long (d1 &&& (9223372036854775807 : Int64))), .second, .val (.long (own_vr r2)), .second, .val (.long v7), .second, .unset, .unset, .unset, .unset] [])) rfl (hb hby at_52) (by decide) (by decide)
    obtain ⟨b9, g9⟩ : ∃ z, z = h0.size := ⟨_, rfl⟩
    rw [← g9] at A9 D9 U9 st9
    have g_b9 : n0 ≤ b9 := Nat.le_trans Z0 (Nat.le_of_eq g9.symm)
    have sz_b9 : h0.size ≤ b9 := Nat.le_trans (Keep.refl h0 []).1 (Nat.le_of_eq g9.symm)
    have z10 := Nat.le_trans Z0 E9.1
    have kp11 := (Keep.refl h0 []).ext E9
    have F_rate_b9 : Fld Z h9 b9 "com/example/tollwright/tollwright/planner/Contract" "rate" "J" (.long (0 : Int64)) := D9 (Or.inr (hw _ (List.mem_of_getElem? (i := 15) rfl))) (ty := .long) (by decide)
    have F_depth_b9 : Fld Z h9 b9 "com/example/tollwright/tollwright/planner/Contract" "depth" "J" (.long (0 : Int64)) := D9 (Or.inr (hw _ (List.mem_of_getElem? (i := 17) rfl))) (ty := .long) (by decide)
    obtain ⟨_, _, ⟨T12, L12, k12, n12⟩, -, X12, ⟨Lc12, hQ12, l12, y12, z12⟩, st12⟩ := X9.specialBack hx (y := (⟨"com/example/tollwright/tollwright/planner/Contract", "<init>", "(JJ)V"⟩ : MethodName)) rfl hown (mvT hZ (hw _ (List.mem_of_getElem? (i := 8) rfl))) (mvT hZ (hw _ (List.mem_of_getElem? (i := 9) rfl))) (mvT hZ (hw _ (List.mem_of_getElem? (i := 10) rfl))) (by decide) (backOf (W := 1) (rm2 l Z a0 hw [] b9 (own_vr r1) (d1 &&& (9223372036854775807 : Int64)) h9 n0 z10 A9 F_rate_b9 F_depth_b9 g_b9 (own_vr_pos r1) (own_mask d1)) hZ (hw _ (List.mem_of_getElem? (i := 10) rfl)) (hw _ (List.mem_of_getElem? (i := 7) rfl)) (by decide) (by decide)) (g := (mkF m 60 #[.val (.long r1), .second, .val (.long d1), .second, .val (.long r2), .second, .val (.long d2), .second, .val (.int fl), .val (.long (own_vr r1)), .second, .val (.long (d1 &&& (9223372036854775807 : Int64))), .second, .val (.long (own_vr r2)), .second, .val (.long v7), .second, .unset, .unset, .unset, .unset] [(.long (d1 &&& (9223372036854775807 : Int64))), (.long (own_vr r1)), (.ref b9), (.ref b9)])) rfl (by rw [hml]; rfl) (Steps.refl _) (a := b9) (argsL := [(.long (own_vr r1)), (.long (d1 &&& (9223372036854775807 : Int64)))]) (rest := [(.ref b9)]) (lenOf pd_1 rfl) rfl (by show 2 * 0 + _ ≤ _; exact Nat.le_of_eq rfl) (hb hby at_60) (fun _ _ => ⟨rfl, e9, (by decide : 1 + 0 ≤ _), (by decide : 2 + 0 ≤ _)⟩)
    dsimp only [Pt.U, Pt.locs, Pt.cells, Pt.slots] at X12 l12 y12 z12 st12 hQ12
    subst l12 y12 z12
    obtain ⟨rfl, N12q, K12, Eo12, Fr12, Fd12⟩ := hQ12
    have N12 := Fr.app N4 N12q
    have f13 := A9.keep K12
    have z14 := Nat.le_trans z10 K12.1
    have kp15 := Keep.trans kp11 K12 (allS (Or.inr sz_b9) all0)
    obtain ⟨T16, h16, X16, e16, E16, A16, D16, U16, st16⟩ := newO X12 hx hZ hown (hw _ (List.mem_of_getElem? (i := 5) rfl)) (hw _ (List.mem_of_getElem? (i := 6) rfl)) (hw _ (List.mem_of_getElem? (i := 7) rfl)) rfl (g := (mkF m 65 #[.val (.long r1), .second, .val (.long d1), .second, .val (.long r2), .second, .val (.long d2), .second, .val (.int fl), .val (.long (own_vr r1)), .second, .val (.long (d1 &&& (9223372036854775807 : Int64))), .second, .val (.long (own_vr r2)), .second, .val (.long v7), .second, .val (.ref b9), .unset, .unset, .unset] [])) rfl (hb hby at_65) (by decide) (by decide)
    obtain ⟨b16, g16⟩ : ∃ z, z = T12.heap.size := ⟨_, rfl⟩
    rw [← g16] at A16 D16 U16 st16
    have ne_b9_b16 : b9 ≠ b16 := Nat.ne_of_lt (Nat.lt_of_lt_of_le Eo12.lt (Nat.le_of_eq g16.symm))
    have g_b16 : n0 ≤ b16 := Nat.le_trans z14 (Nat.le_of_eq g16.symm)
    have sz_b16 : h0.size ≤ b16 := Nat.le_trans kp15.1 (Nat.le_of_eq g16.symm)
    have f17 := Eo12.ext E16
    have f18 := Fr12.ext E16
    have f19 := Fd12.ext E16
    have z20 := Nat.le_trans z14 E16.1
    have kp21 := kp15.ext E16
    have F_rate_b16 : Fld Z h16 b16 "com/example/tollwright/tollwright/planner/Contract" "rate" "J" (.long (0 : Int64)) := D16 (Or.inr (hw _ (List.mem_of_getElem? (i := 15) rfl))) (ty := .long) (by decide)
    have F_depth_b16 : Fld Z h16 b16 "com/example/tollwright/tollwright/planner/Contract" "depth" "J" (.long (0 : Int64)) := D16 (Or.inr (hw _ (List.mem_of_getElem? (i := 17) rfl))) (ty := .long) (by decide)
    obtain ⟨_, _, ⟨T22, L22, k22, n22⟩, -, X22, ⟨Lc22, hQ22, l22, y22, z22⟩, st22⟩ := X16.specialBack hx (y := (⟨"com/example/tollwright/tollwright/planner/Contract", "<init>", "(JJ)V"⟩ : MethodName)) rfl hown (mvT hZ (hw _ (List.mem_of_getElem? (i := 8) rfl))) (mvT hZ (hw _ (List.mem_of_getElem? (i := 9) rfl))) (mvT hZ (hw _ (List.mem_of_getElem? (i := 10) rfl))) (by decide) (backOf (W := 1) (rm2 l Z a0 hw [] b16 (own_vr r2) v7 h16 n0 z20 A16 F_rate_b16 F_depth_b16 g_b16 (own_vr_pos r2) nv7) hZ (hw _ (List.mem_of_getElem? (i := 10) rfl)) (hw _ (List.mem_of_getElem? (i := 7) rfl)) (by decide) (by decide)) (g := (mkF m 73 #[.val (.long r1), .second, .val (.long d1), .second, .val (.long r2), .second, .val (.long d2), .second, .val (.int fl), .val (.long (own_vr r1)), .second, .val (.long (d1 &&& (9223372036854775807 : Int64))), .second, .val (.long (own_vr r2)), .second, .val (.long v7), .second, .val (.ref b9), .unset, .unset, .unset] [(.long v7), (.long (own_vr r2)), (.ref b16), (.ref b16)])) rfl (by rw [hml]; rfl) (Steps.refl _) (a := b16) (argsL := [(.long (own_vr r2)), (.long v7)]) (rest := [(.ref b16)]) (lenOf pd_1 rfl) rfl (by show 2 * 0 + _ ≤ _; exact Nat.le_of_eq rfl) (hb hby at_73) (fun _ _ => ⟨rfl, e16, (by decide : 2 + 0 ≤ _), (by decide : 4 + 0 ≤ _)⟩)
    dsimp only [Pt.U, Pt.locs, Pt.cells, Pt.slots] at X22 l22 y22 z22 st22 hQ22
    subst l22 y22 z22
    obtain ⟨rfl, N22q, K22, Eo22, Fr22, Fd22⟩ := hQ22
    have N22 := Fr.app N12 N22q
    have f23 := f17.keep K22
    have f24 := f18.keep K22 (ninS ne_b9_b16 nin0)
    have f25 := f19.keep K22 (ninS ne_b9_b16 nin0)
    have f26 := A16.keep K22
    have z27 := Nat.le_trans z20 K22.1
    have kp28 := Keep.trans kp21 K22 (allS (Or.inr sz_b16) all0)
    have k29 : ∀ tq, Steps p.tables e below (T22.setTop (mkF m 83 #[.val (.long r1), .second, .val (.long d1), .second, .val (.long r2), .second, .val (.long d2), .second, .val (.int fl), .val (.long (own_vr r1)), .second, .val (.long (d1 &&& (9223372036854775807 : Int64))), .second, .val (.long (own_vr r2)), .second, .val (.long v7), .second, .val (.ref b9), .val (.ref b16), .unset, .unset] [(.int (lcmpW (own_vr r1) (own_vr r2)))])) tq → Steps p.tables e below (s₁.setTop (entryFrame m #[(.long r1), (.long d1), (.long r2), (.long d2), (.int fl)] maxLocals)) tq := by
      intro tq kt
      refine k8 tq ?_
      show Steps p.tables e below (T4.setTop (mkF m 50 #[.val (.long r1), .second, .val (.long d1), .second, .val (.long r2), .second, .val (.long d2), .second, .val (.int fl), .val (.long (own_vr r1)), .second, .val (.long (d1 &&& (9223372036854775807 : Int64))), .second, .val (.long (own_vr r2)), .second, .unset, .unset, .unset, .unset, .unset, .unset] [(.long v7)])) _
      refine XS.lstore X4.here hx rfl (hb hby at_50) rfl (l' := #[.val (.long r1), .second, .val (.long d1), .second, .val (.long r2), .second, .val (.long d2), .second, .val (.int fl), .val (.long (own_vr r1)), .second, .val (.long (d1 &&& (9223372036854775807 : Int64))), .second, .val (.long (own_vr r2)), .second, .val (.long v7), .second, .unset, .unset, .unset, .unset]) rfl ?_
      show Steps p.tables e below (T4.setTop (mkF m 52 #[.val (.long r1), .second, .val (.long d1), .second, .val (.long r2), .second, .val (.long d2), .second, .val (.int fl), .val (.long (own_vr r1)), .second, .val (.long (d1 &&& (9223372036854775807 : Int64))), .second, .val (.long (own_vr r2)), .second, .val (.long v7), .second, .unset, .unset, .unset, .unset] [])) _
      refine st9 _ ?_
      show Steps p.tables e below (T9.setTop (mkF m 55 #[.val (.long r1), .second, .val (.long d1), .second, .val (.long r2), .second, .val (.long d2), .second, .val (.int fl), .val (.long (own_vr r1)), .second, .val (.long (d1 &&& (9223372036854775807 : Int64))), .second, .val (.long (own_vr r2)), .second, .val (.long v7), .second, .unset, .unset, .unset, .unset] [(.ref b9)])) _
      refine XS.dup X9.here hx rfl (hb hby at_55) rfl rfl ?_
      show Steps p.tables e below (T9.setTop (mkF m 56 #[.val (.long r1), .second, .val (.long d1), .second, .val (.long r2), .second, .val (.long d2), .second, .val (.int fl), .val (.long (own_vr r1)), .second, .val (.long (d1 &&& (9223372036854775807 : Int64))), .second, .val (.long (own_vr r2)), .second, .val (.long v7), .second, .unset, .unset, .unset, .unset] [(.ref b9), (.ref b9)])) _
      refine XS.lload X9.here hx rfl (hb hby at_56) rfl ?_
      show Steps p.tables e below (T9.setTop (mkF m 58 #[.val (.long r1), .second, .val (.long d1), .second, .val (.long r2), .second, .val (.long d2), .second, .val (.int fl), .val (.long (own_vr r1)), .second, .val (.long (d1 &&& (9223372036854775807 : Int64))), .second, .val (.long (own_vr r2)), .second, .val (.long v7), .second, .unset, .unset, .unset, .unset] [(.long (own_vr r1)), (.ref b9), (.ref b9)])) _
      refine XS.lload X9.here hx rfl (hb hby at_58) rfl ?_
      show Steps p.tables e below (T9.setTop (mkF m 60 #[.val (.long r1), .second, .val (.long d1), .second, .val (.long r2), .second, .val (.long d2), .second, .val (.int fl), .val (.long (own_vr r1)), .second, .val (.long (d1 &&& (9223372036854775807 : Int64))), .second, .val (.long (own_vr r2)), .second, .val (.long v7), .second, .unset, .unset, .unset, .unset] [(.long (d1 &&& (9223372036854775807 : Int64))), (.long (own_vr r1)), (.ref b9), (.ref b9)])) _
      refine st12.trans ?_
      show Steps p.tables e below (T12.setTop (mkF m 63 #[.val (.long r1), .second, .val (.long d1), .second, .val (.long r2), .second, .val (.long d2), .second, .val (.int fl), .val (.long (own_vr r1)), .second, .val (.long (d1 &&& (9223372036854775807 : Int64))), .second, .val (.long (own_vr r2)), .second, .val (.long v7), .second, .unset, .unset, .unset, .unset] [(.ref b9)])) _
      refine XS.astore X12.here hx rfl (hb hby at_63) rfl rfl (l' := #[.val (.long r1), .second, .val (.long d1), .second, .val (.long r2), .second, .val (.long d2), .second, .val (.int fl), .val (.long (own_vr r1)), .second, .val (.long (d1 &&& (9223372036854775807 : Int64))), .second, .val (.long (own_vr r2)), .second, .val (.long v7), .second, .val (.ref b9), .unset, .unset, .unset]) rfl ?_
      show Steps p.tables e below (T12.setTop (mkF m 65 #[.val (.long r1), .second, .val (.long d1), .second, .val (.long r2), .second, .val (.long d2), .second, .val (.int fl), .val (.long (own_vr r1)), .second, .val (.long (d1 &&& (9223372036854775807 : Int64))), .second, .val (.long (own_vr r2)), .second, .val (.long v7), .second, .val (.ref b9), .unset, .unset, .unset] [])) _
      refine st16 _ ?_
      show Steps p.tables e below (T16.setTop (mkF m 68 #[.val (.long r1), .second, .val (.long d1), .second, .val (.long r2), .second, .val (.long d2), .second, .val (.int fl), .val (.long (own_vr r1)), .second, .val (.long (d1 &&& (9223372036854775807 : Int64))), .second, .val (.long (own_vr r2)), .second, .val (.long v7), .second, .val (.ref b9), .unset, .unset, .unset] [(.ref b16)])) _
      refine XS.dup X16.here hx rfl (hb hby at_68) rfl rfl ?_
      show Steps p.tables e below (T16.setTop (mkF m 69 #[.val (.long r1), .second, .val (.long d1), .second, .val (.long r2), .second, .val (.long d2), .second, .val (.int fl), .val (.long (own_vr r1)), .second, .val (.long (d1 &&& (9223372036854775807 : Int64))), .second, .val (.long (own_vr r2)), .second, .val (.long v7), .second, .val (.ref b9), .unset, .unset, .unset] [(.ref b16), (.ref b16)])) _
      refine XS.lload X16.here hx rfl (hb hby at_69) rfl ?_
      show Steps p.tables e below (T16.setTop (mkF m 71 #[.val (.long r1), .second, .val (.long d1), .second, .val (.long r2), .second, .val (.long d2), .second, .val (.int fl), .val (.long (own_vr r1)), .second, .val (.long (d1 &&& (9223372036854775807 : Int64))), .second, .val (.long (own_vr r2)), .second, .val (.long v7), .second, .val (.ref b9), .unset, .unset, .unset] [(.long (own_vr r2)), (.ref b16), (.ref b16)])) _
      refine XS.lload X16.here hx rfl (hb hby at_71) rfl ?_
      show Steps p.tables e below (T16.setTop (mkF m 73 #[.val (.long r1), .second, .val (.long d1), .second, .val (.long r2), .second, .val (.long d2), .second, .val (.int fl), .val (.long (own_vr r1)), .second, .val (.long (d1 &&& (9223372036854775807 : Int64))), .second, .val (.long (own_vr r2)), .second, .val (.long v7), .second, .val (.ref b9), .unset, .unset, .unset] [(.long v7), (.long (own_vr r2)), (.ref b16), (.ref b16)])) _
      refine st22.trans ?_
      show Steps p.tables e below (T22.setTop (mkF m 76 #[.val (.long r1), .second, .val (.long d1), .second, .val (.long r2), .second, .val (.long d2), .second, .val (.int fl), .val (.long (own_vr r1)), .second, .val (.long (d1 &&& (9223372036854775807 : Int64))), .second, .val (.long (own_vr r2)), .second, .val (.long v7), .second, .val (.ref b9), .unset, .unset, .unset] [(.ref b16)])) _
      refine XS.astore X22.here hx rfl (hb hby at_76) rfl rfl (l' := #[.val (.long r1), .second, .val (.long d1), .second, .val (.long r2), .second, .val (.long d2), .second, .val (.int fl), .val (.long (own_vr r1)), .second, .val (.long (d1 &&& (9223372036854775807 : Int64))), .second, .val (.long (own_vr r2)), .second, .val (.long v7), .second, .val (.ref b9), .val (.ref b16), .unset, .unset]) rfl ?_
      show Steps p.tables e below (T22.setTop (mkF m 78 #[.val (.long r1), .second, .val (.long d1), .second, .val (.long r2), .second, .val (.long d2), .second, .val (.int fl), .val (.long (own_vr r1)), .second, .val (.long (d1 &&& (9223372036854775807 : Int64))), .second, .val (.long (own_vr r2)), .second, .val (.long v7), .second, .val (.ref b9), .val (.ref b16), .unset, .unset] [])) _
      refine XS.lload X22.here hx rfl (hb hby at_78) rfl ?_
      show Steps p.tables e below (T22.setTop (mkF m 80 #[.val (.long r1), .second, .val (.long d1), .second, .val (.long r2), .second, .val (.long d2), .second, .val (.int fl), .val (.long (own_vr r1)), .second, .val (.long (d1 &&& (9223372036854775807 : Int64))), .second, .val (.long (own_vr r2)), .second, .val (.long v7), .second, .val (.ref b9), .val (.ref b16), .unset, .unset] [(.long (own_vr r1))])) _
      refine XS.lload X22.here hx rfl (hb hby at_80) rfl ?_
      show Steps p.tables e below (T22.setTop (mkF m 82 #[.val (.long r1), .second, .val (.long d1), .second, .val (.long r2), .second, .val (.long d2), .second, .val (.int fl), .val (.long (own_vr r1)), .second, .val (.long (d1 &&& (9223372036854775807 : Int64))), .second, .val (.long (own_vr r2)), .second, .val (.long v7), .second, .val (.ref b9), .val (.ref b16), .unset, .unset] [(.long (own_vr r2)), (.long (own_vr r1))])) _
      refine XS.lcmp X22.here hx rfl (hb hby at_82) rfl ?_
      exact kt
    obtain ⟨v32, hv32⟩ : ∃ z : Int32, z = (if (lcmpW (own_vr r1) (own_vr r2)) = (0 : Int32) then (if (lcmpW (d1 &&& (9223372036854775807 : Int64)) v7) = (0 : Int32) then (1 : Int32) else (0 : Int32)) else (0 : Int32)) := ⟨_, rfl⟩
    have k33 : ∀ tq, Steps p.tables e below (T22.setTop (mkF m 99 #[.val (.long r1), .second, .val (.long d1), .second, .val (.long r2), .second, .val (.long d2), .second, .val (.int fl), .val (.long (own_vr r1)), .second, .val (.long (d1 &&& (9223372036854775807 : Int64))), .second, .val (.long (own_vr r2)), .second, .val (.long v7), .second, .val (.ref b9), .val (.ref b16), .unset, .unset] [(.int v32)])) tq → Steps p.tables e below (s₁.setTop (entryFrame m #[(.long r1), (.long d1), (.long r2), (.long d2), (.int fl)] maxLocals)) tq := by
      intro tq kt
      by_cases hc30 : (lcmpW (own_vr r1) (own_vr r2)) = (0 : Int32)
      · rw [if_pos hc30] at hv32
        by_cases hc31 : (lcmpW (d1 &&& (9223372036854775807 : Int64)) v7) = (0 : Int32)
        · rw [if_pos hc31] at hv32
          subst hv32
          refine k29 tq ?_
          show Steps p.tables e below (T22.setTop (mkF m 83 #[.val (.long r1), .second, .val (.long d1), .second, .val (.long r2), .second, .val (.long d2), .second, .val (.int fl), .val (.long (own_vr r1)), .second, .val (.long (d1 &&& (9223372036854775807 : Int64))), .second, .val (.long (own_vr r2)), .second, .val (.long v7), .second, .val (.ref b9), .val (.ref b16), .unset, .unset] [(.int (lcmpW (own_vr r1) (own_vr r2)))])) _
          refine XS.ifNo X22.here hx rfl (hb hby at_83) rfl ((if0 _ _).trans (teq hc30).2) ?_
          show Steps p.tables e below (T22.setTop (mkF m 86 #[.val (.long r1), .second, .val (.long d1), .second, .val (.long r2), .second, .val (.long d2), .second, .val (.int fl), .val (.long (own_vr r1)), .second, .val (.long (d1 &&& (9223372036854775807 : Int64))), .second, .val (.long (own_vr r2)), .second, .val (.long v7), .second, .val (.ref b9), .val (.ref b16), .unset, .unset] [])) _
          refine XS.lload X22.here hx rfl (hb hby at_86) rfl ?_
          show Steps p.tables e below (T22.setTop (mkF m 88 #[.val (.long r1), .second, .val (.long d1), .second, .val (.long r2), .second, .val (.long d2), .second, .val (.int fl), .val (.long (own_vr r1)), .second, .val (.long (d1 &&& (9223372036854775807 : Int64))), .second, .val (.long (own_vr r2)), .second, .val (.long v7), .second, .val (.ref b9), .val (.ref b16), .unset, .unset] [(.long (d1 &&& (9223372036854775807 : Int64)))])) _
          refine XS.lload X22.here hx rfl (hb hby at_88) rfl ?_
          show Steps p.tables e below (T22.setTop (mkF m 90 #[.val (.long r1), .second, .val (.long d1), .second, .val (.long r2), .second, .val (.long d2), .second, .val (.int fl), .val (.long (own_vr r1)), .second, .val (.long (d1 &&& (9223372036854775807 : Int64))), .second, .val (.long (own_vr r2)), .second, .val (.long v7), .second, .val (.ref b9), .val (.ref b16), .unset, .unset] [(.long v7), (.long (d1 &&& (9223372036854775807 : Int64)))])) _
          refine XS.lcmp X22.here hx rfl (hb hby at_90) rfl ?_
          show Steps p.tables e below (T22.setTop (mkF m 91 #[.val (.long r1), .second, .val (.long d1), .second, .val (.long r2), .second, .val (.long d2), .second, .val (.int fl), .val (.long (own_vr r1)), .second, .val (.long (d1 &&& (9223372036854775807 : Int64))), .second, .val (.long (own_vr r2)), .second, .val (.long v7), .second, .val (.ref b9), .val (.ref b16), .unset, .unset] [(.int (lcmpW (d1 &&& (9223372036854775807 : Int64)) v7))])) _
          refine XS.ifNo X22.here hx rfl (hb hby at_91) rfl ((if0 _ _).trans (teq hc31).2) ?_
          show Steps p.tables e below (T22.setTop (mkF m 94 #[.val (.long r1), .second, .val (.long d1), .second, .val (.long r2), .second, .val (.long d2), .second, .val (.int fl), .val (.long (own_vr r1)), .second, .val (.long (d1 &&& (9223372036854775807 : Int64))), .second, .val (.long (own_vr r2)), .second, .val (.long v7), .second, .val (.ref b9), .val (.ref b16), .unset, .unset] [])) _
          refine XS.iconst X22.here hx rfl (hb hby at_94) ?_
          show Steps p.tables e below (T22.setTop (mkF m 95 #[.val (.long r1), .second, .val (.long d1), .second, .val (.long r2), .second, .val (.long d2), .second, .val (.int fl), .val (.long (own_vr r1)), .second, .val (.long (d1 &&& (9223372036854775807 : Int64))), .second, .val (.long (own_vr r2)), .second, .val (.long v7), .second, .val (.ref b9), .val (.ref b16), .unset, .unset] [(.int (1 : Int32))])) _
          refine XS.goto X22.here hx rfl (pc0 := 95) (pc' := 99) rfl (hb hby at_95) (by decide) (by decide) ?_
          exact kt
        · rw [if_neg hc31] at hv32
          subst hv32
          refine k29 tq ?_
          show Steps p.tables e below (T22.setTop (mkF m 83 #[.val (.long r1), .second, .val (.long d1), .second, .val (.long r2), .second, .val (.long d2), .second, .val (.int fl), .val (.long (own_vr r1)), .second, .val (.long (d1 &&& (9223372036854775807 : Int64))), .second, .val (.long (own_vr r2)), .second, .val (.long v7), .second, .val (.ref b9), .val (.ref b16), .unset, .unset] [(.int (lcmpW (own_vr r1) (own_vr r2)))])) _
          refine XS.ifNo X22.here hx rfl (hb hby at_83) rfl ((if0 _ _).trans (teq hc30).2) ?_
          show Steps p.tables e below (T22.setTop (mkF m 86 #[.val (.long r1), .second, .val (.long d1), .second, .val (.long r2), .second, .val (.long d2), .second, .val (.int fl), .val (.long (own_vr r1)), .second, .val (.long (d1 &&& (9223372036854775807 : Int64))), .second, .val (.long (own_vr r2)), .second, .val (.long v7), .second, .val (.ref b9), .val (.ref b16), .unset, .unset] [])) _
          refine XS.lload X22.here hx rfl (hb hby at_86) rfl ?_
          show Steps p.tables e below (T22.setTop (mkF m 88 #[.val (.long r1), .second, .val (.long d1), .second, .val (.long r2), .second, .val (.long d2), .second, .val (.int fl), .val (.long (own_vr r1)), .second, .val (.long (d1 &&& (9223372036854775807 : Int64))), .second, .val (.long (own_vr r2)), .second, .val (.long v7), .second, .val (.ref b9), .val (.ref b16), .unset, .unset] [(.long (d1 &&& (9223372036854775807 : Int64)))])) _
          refine XS.lload X22.here hx rfl (hb hby at_88) rfl ?_
          show Steps p.tables e below (T22.setTop (mkF m 90 #[.val (.long r1), .second, .val (.long d1), .second, .val (.long r2), .second, .val (.long d2), .second, .val (.int fl), .val (.long (own_vr r1)), .second, .val (.long (d1 &&& (9223372036854775807 : Int64))), .second, .val (.long (own_vr r2)), .second, .val (.long v7), .second, .val (.ref b9), .val (.ref b16), .unset, .unset] [(.long v7), (.long (d1 &&& (9223372036854775807 : Int64)))])) _
          refine XS.lcmp X22.here hx rfl (hb hby at_90) rfl ?_
          show Steps p.tables e below (T22.setTop (mkF m 91 #[.val (.long r1), .second, .val (.long d1), .second, .val (.long r2), .second, .val (.long d2), .second, .val (.int fl), .val (.long (own_vr r1)), .second, .val (.long (d1 &&& (9223372036854775807 : Int64))), .second, .val (.long (own_vr r2)), .second, .val (.long v7), .second, .val (.ref b9), .val (.ref b16), .unset, .unset] [(.int (lcmpW (d1 &&& (9223372036854775807 : Int64)) v7))])) _
          refine XS.ifYes X22.here hx rfl (pc0 := 91) (pc' := 98) rfl (hb hby at_91) rfl ((if0 _ _).trans (feq hc31).2) (by decide) (by decide) ?_
          show Steps p.tables e below (T22.setTop (mkF m 98 #[.val (.long r1), .second, .val (.long d1), .second, .val (.long r2), .second, .val (.long d2), .second, .val (.int fl), .val (.long (own_vr r1)), .second, .val (.long (d1 &&& (9223372036854775807 : Int64))), .second, .val (.long (own_vr r2)), .second, .val (.long v7), .second, .val (.ref b9), .val (.ref b16), .unset, .unset] [])) _
          refine XS.iconst X22.here hx rfl (hb hby at_98) ?_
          exact kt
      · rw [if_neg hc30] at hv32
        subst hv32
        refine k29 tq ?_
        show Steps p.tables e below (T22.setTop (mkF m 83 #[.val (.long r1), .second, .val (.long d1), .second, .val (.long r2), .second, .val (.long d2), .second, .val (.int fl), .val (.long (own_vr r1)), .second, .val (.long (d1 &&& (9223372036854775807 : Int64))), .second, .val (.long (own_vr r2)), .second, .val (.long v7), .second, .val (.ref b9), .val (.ref b16), .unset, .unset] [(.int (lcmpW (own_vr r1) (own_vr r2)))])) _
        refine XS.ifYes X22.here hx rfl (pc0 := 83) (pc' := 98) rfl (hb hby at_83) rfl ((if0 _ _).trans (feq hc30).2) (by decide) (by decide) ?_
        show Steps p.tables e below (T22.setTop (mkF m 98 #[.val (.long r1), .second, .val (.long d1), .second, .val (.long r2), .second, .val (.long d2), .second, .val (.int fl), .val (.long (own_vr r1)), .second, .val (.long (d1 &&& (9223372036854775807 : Int64))), .second, .val (.long (own_vr r2)), .second, .val (.long v7), .second, .val (.ref b9), .val (.ref b16), .unset, .unset] [])) _
        refine XS.iconst X22.here hx rfl (hb hby at_98) ?_
        exact kt
    have hs1 : own_eq (own_vr r1) (d1 &&& (9223372036854775807 : Int64)) (own_vr r2) v7 = v32 := by rw [hv32]; exact own_eq_symm _ _ _ _
    have hs2 : own_eq (own_vr r2) v7 (own_vr r1) (d1 &&& (9223372036854775807 : Int64)) = v32 := by rw [hv32]; rfl
    have k34 : ∀ tq, Steps p.tables e below (T22.setTop (mkF m 105 #[.val (.long r1), .second, .val (.long d1), .second, .val (.long r2), .second, .val (.long d2), .second, .val (.int fl), .val (.long (own_vr r1)), .second, .val (.long (d1 &&& (9223372036854775807 : Int64))), .second, .val (.long (own_vr r2)), .second, .val (.long v7), .second, .val (.ref b9), .val (.ref b16), .val (.int v32), .unset] [(.int (fl &&& (4 : Int32)))])) tq → Steps p.tables e below (s₁.setTop (entryFrame m #[(.long r1), (.long d1), (.long r2), (.long d2), (.int fl)] maxLocals)) tq := by
      intro tq kt
      refine k33 tq ?_
      show Steps p.tables e below (T22.setTop (mkF m 99 #[.val (.long r1), .second, .val (.long d1), .second, .val (.long r2), .second, .val (.long d2), .second, .val (.int fl), .val (.long (own_vr r1)), .second, .val (.long (d1 &&& (9223372036854775807 : Int64))), .second, .val (.long (own_vr r2)), .second, .val (.long v7), .second, .val (.ref b9), .val (.ref b16), .unset, .unset] [(.int v32)])) _
      refine XS.istore X22.here hx rfl (hb hby at_99) rfl (l' := #[.val (.long r1), .second, .val (.long d1), .second, .val (.long r2), .second, .val (.long d2), .second, .val (.int fl), .val (.long (own_vr r1)), .second, .val (.long (d1 &&& (9223372036854775807 : Int64))), .second, .val (.long (own_vr r2)), .second, .val (.long v7), .second, .val (.ref b9), .val (.ref b16), .val (.int v32), .unset]) rfl ?_
      show Steps p.tables e below (T22.setTop (mkF m 101 #[.val (.long r1), .second, .val (.long d1), .second, .val (.long r2), .second, .val (.long d2), .second, .val (.int fl), .val (.long (own_vr r1)), .second, .val (.long (d1 &&& (9223372036854775807 : Int64))), .second, .val (.long (own_vr r2)), .second, .val (.long v7), .second, .val (.ref b9), .val (.ref b16), .val (.int v32), .unset] [])) _
      refine XS.iload X22.here hx rfl (hb hby at_101) rfl ?_
      show Steps p.tables e below (T22.setTop (mkF m 103 #[.val (.long r1), .second, .val (.long d1), .second, .val (.long r2), .second, .val (.long d2), .second, .val (.int fl), .val (.long (own_vr r1)), .second, .val (.long (d1 &&& (9223372036854775807 : Int64))), .second, .val (.long (own_vr r2)), .second, .val (.long v7), .second, .val (.ref b9), .val (.ref b16), .val (.int v32), .unset] [(.int fl)])) _
      refine XS.iconst X22.here hx rfl (hb hby at_103) ?_
      show Steps p.tables e below (T22.setTop (mkF m 104 #[.val (.long r1), .second, .val (.long d1), .second, .val (.long r2), .second, .val (.long d2), .second, .val (.int fl), .val (.long (own_vr r1)), .second, .val (.long (d1 &&& (9223372036854775807 : Int64))), .second, .val (.long (own_vr r2)), .second, .val (.long v7), .second, .val (.ref b9), .val (.ref b16), .val (.int v32), .unset] [(.int (4 : Int32)), (.int fl)])) _
      refine XS.iand X22.here hx rfl (hb hby at_104) rfl ?_
      exact kt
    by_cases hc35 : (fl &&& (4 : Int32)) = (0 : Int32)
    · obtain ⟨_, _, ⟨T36, L36, k36, n36⟩, -, X36, ⟨Lc36, hQ36, l36, y36, z36⟩, st36⟩ := Jvm.LawKit.callS X22 hx (y := (⟨"java/lang/Long", "valueOf", "(J)Ljava/lang/Long;"⟩ : MethodName)) hown (mvT hZ (hw _ (List.mem_of_getElem? (i := 18) rfl))) (mvT hZ (hw _ (List.mem_of_getElem? (i := 19) rfl))) (mvT hZ (hw _ (List.mem_of_getElem? (i := 20) rfl))) (mvT hZ (hw _ (List.mem_of_getElem? (i := 21) rfl))) (by decide) (backOf (W := 0) (rmV l Z a0 hw [] (own_vr r1) ca cl T22.heap n0 z27 (own_sta_keep S_c kp28) (own_arr_keep Ar kp28) (own_cache_keep Ca kp28)) hZ (hw _ (List.mem_of_getElem? (i := 21) rfl)) (hw _ (List.mem_of_getElem? (i := 20) rfl)) (by decide) (by decide)) (g := (mkF m 114 #[.val (.long r1), .second, .val (.long d1), .second, .val (.long r2), .second, .val (.long d2), .second, .val (.int fl), .val (.long (own_vr r1)), .second, .val (.long (d1 &&& (9223372036854775807 : Int64))), .second, .val (.long (own_vr r2)), .second, .val (.long v7), .second, .val (.ref b9), .val (.ref b16), .val (.int v32), .unset] [(.long (own_vr r1))])) rfl (by rw [hml]; rfl) (argsL := [(.long (own_vr r1))]) (rest := []) (lenOf pd_3 rfl) rfl (by show 2 * 0 + _ ≤ _; exact Nat.le_of_eq rfl) (hb hby at_114) (fun _ _ => ⟨rfl, rfl, (by decide : 2 + 1 ≤ _), (by decide : 4 + 1 ≤ _)⟩)
      dsimp only [Pt.U, Pt.locs, Pt.cells, Pt.slots] at X36 l36 y36 z36 st36 hQ36
      subst l36 y36 z36
      obtain ⟨bl36, rfl, N36q, K36, Es36⟩ := hQ36
      have N36 := Fr.app N22 N36q
      have f37 := f23.keep K36
      have f38 := f24.keep K36 nin0
      have f39 := f25.keep K36 nin0
      have f40 := Eo22.keep K36
      have f41 := Fr22.keep K36 nin0
      have f42 := Fd22.keep K36 nin0
      have z43 := Nat.le_trans z27 K36.1
      have kp44 := Keep.trans kp28 K36 all0
      obtain ⟨cq45, kq45, q45a, q45b, q45c⟩ := isOf hZ rfl f37
      obtain ⟨_, _, ⟨T45, L45, k45, n45⟩, -, X45, ⟨Lc45, hQ45, l45, y45, z45⟩, st45⟩ := X36.virtualBack hx (y := (⟨"com/example/tollwright/tollwright/planner/Contract", "equals", "(Ljava/lang/Object;)Z"⟩ : MethodName)) (z := (⟨"com/example/tollwright/tollwright/planner/Contract", "equals", "(Ljava/lang/Object;)Z"⟩ : MethodName)) hown (mvT hZ (hw _ (List.mem_of_getElem? (i := 26) rfl))) (mvT hZ (hw _ (List.mem_of_getElem? (i := 27) rfl))) (notFace_of_selects (args := #[]) (mvT hZ (hw _ (List.mem_of_getElem? (i := 29) rfl)))) (mvT hZ (hw _ (List.mem_of_getElem? (i := 29) rfl))) (mvT hZ (hw _ (List.mem_of_getElem? (i := 28) rfl))) (by decide) (backOf (W := 0) (rm5 l Z a0 hw [] b9 b16 (own_vr r1) (d1 &&& (9223372036854775807 : Int64)) (own_vr r2) v7 T36.heap n0 z43 f40 f38 f39 f41 f42) hZ (hw _ (List.mem_of_getElem? (i := 30) rfl)) (hw _ (List.mem_of_getElem? (i := 7) rfl)) (by decide) (by decide)) q45a q45c (g := (mkF m 123 #[.val (.long r1), .second, .val (.long d1), .second, .val (.long r2), .second, .val (.long d2), .second, .val (.int fl), .val (.long (own_vr r1)), .second, .val (.long (d1 &&& (9223372036854775807 : Int64))), .second, .val (.long (own_vr r2)), .second, .val (.long v7), .second, .val (.ref b9), .val (.ref b16), .val (.int v32), .val (.ref bl36)] [(.ref b16), (.ref b9)])) rfl (by rw [hml]; rfl) (Steps.refl _) (argsL := [(.ref b16)]) (rest := []) (lenOf pd_4 rfl) rfl (by show 2 * 0 + _ ≤ _; exact Nat.le_of_eq rfl) (hb hby at_123) (fun _ _ => ⟨rfl, rfl, (by decide : 3 + 0 ≤ _), (by decide : 5 + 0 ≤ _)⟩)
      dsimp only [Pt.U, Pt.locs, Pt.cells, Pt.slots] at X45 l45 y45 z45 st45 hQ45
      subst l45 y45 z45
      obtain ⟨rfl, N45q, e45⟩ := hQ45
      have N45 := Fr.app N36 N45q
      obtain ⟨cq46, kq46, q46a, q46b, q46c⟩ := isOf hZ e45 f40
      obtain ⟨_, _, ⟨T46, L46, k46, n46⟩, -, X46, ⟨Lc46, hQ46, l46, y46, z46⟩, st46⟩ := X45.virtualBack hx (y := (⟨"com/example/tollwright/tollwright/planner/Contract", "equals", "(Ljava/lang/Object;)Z"⟩ : MethodName)) (z := (⟨"com/example/tollwright/tollwright/planner/Contract", "equals", "(Ljava/lang/Object;)Z"⟩ : MethodName)) hown (mvT hZ (hw _ (List.mem_of_getElem? (i := 26) rfl))) (mvT hZ (hw _ (List.mem_of_getElem? (i := 27) rfl))) (notFace_of_selects (args := #[]) (mvT hZ (hw _ (List.mem_of_getElem? (i := 29) rfl)))) (mvT hZ (hw _ (List.mem_of_getElem? (i := 29) rfl))) (mvT hZ (hw _ (List.mem_of_getElem? (i := 28) rfl))) (by decide) (backOf (W := 0) (rm5 l Z a0 hw [] b16 b9 (own_vr r2) v7 (own_vr r1) (d1 &&& (9223372036854775807 : Int64)) T36.heap n0 z43 f37 f41 f42 f38 f39) hZ (hw _ (List.mem_of_getElem? (i := 30) rfl)) (hw _ (List.mem_of_getElem? (i := 7) rfl)) (by decide) (by decide)) q46a q46c (g := (mkF m 135 #[.val (.long r1), .second, .val (.long d1), .second, .val (.long r2), .second, .val (.long d2), .second, .val (.int fl), .val (.long (own_vr r1)), .second, .val (.long (d1 &&& (9223372036854775807 : Int64))), .second, .val (.long (own_vr r2)), .second, .val (.long v7), .second, .val (.ref b9), .val (.ref b16), .val (.int v32), .val (.ref bl36)] [(.ref b9), (.ref b16)])) rfl (by rw [hml]; rfl) (Steps.refl _) (argsL := [(.ref b9)]) (rest := []) (lenOf pd_4 rfl) rfl (by show 2 * 0 + _ ≤ _; exact Nat.le_of_eq rfl) (hb hby at_135) (fun _ _ => ⟨rfl, e45, (by decide : 3 + 0 ≤ _), (by decide : 5 + 0 ≤ _)⟩)
      dsimp only [Pt.U, Pt.locs, Pt.cells, Pt.slots] at X46 l46 y46 z46 st46 hQ46
      subst l46 y46 z46
      obtain ⟨rfl, N46q, e46⟩ := hQ46
      have N46 := Fr.app N45 N46q
      obtain ⟨cq47, kq47, q47a, q47b, q47c⟩ := isOf hZ e46 f37
      obtain ⟨_, _, ⟨T47, L47, k47, n47⟩, -, X47, ⟨Lc47, hQ47, l47, y47, z47⟩, st47⟩ := X46.virtualBack hx (y := (⟨"com/example/tollwright/tollwright/planner/Contract", "equals", "(Ljava/lang/Object;)Z"⟩ : MethodName)) (z := (⟨"com/example/tollwright/tollwright/planner/Contract", "equals", "(Ljava/lang/Object;)Z"⟩ : MethodName)) hown (mvT hZ (hw _ (List.mem_of_getElem? (i := 26) rfl))) (mvT hZ (hw _ (List.mem_of_getElem? (i := 27) rfl))) (notFace_of_selects (args := #[]) (mvT hZ (hw _ (List.mem_of_getElem? (i := 29) rfl)))) (mvT hZ (hw _ (List.mem_of_getElem? (i := 29) rfl))) (mvT hZ (hw _ (List.mem_of_getElem? (i := 28) rfl))) (by decide) (backOf (W := 0) (rm5 l Z a0 hw [] b9 b9 (own_vr r1) (d1 &&& (9223372036854775807 : Int64)) (own_vr r1) (d1 &&& (9223372036854775807 : Int64)) T36.heap n0 z43 f37 f38 f39 f38 f39) hZ (hw _ (List.mem_of_getElem? (i := 30) rfl)) (hw _ (List.mem_of_getElem? (i := 7) rfl)) (by decide) (by decide)) q47a q47c (g := (mkF m 147 #[.val (.long r1), .second, .val (.long d1), .second, .val (.long r2), .second, .val (.long d2), .second, .val (.int fl), .val (.long (own_vr r1)), .second, .val (.long (d1 &&& (9223372036854775807 : Int64))), .second, .val (.long (own_vr r2)), .second, .val (.long v7), .second, .val (.ref b9), .val (.ref b16), .val (.int v32), .val (.ref bl36)] [(.ref b9), (.ref b9)])) rfl (by rw [hml]; rfl) (Steps.refl _) (argsL := [(.ref b9)]) (rest := []) (lenOf pd_4 rfl) rfl (by show 2 * 0 + _ ≤ _; exact Nat.le_of_eq rfl) (hb hby at_147) (fun _ _ => ⟨rfl, e46, (by decide : 3 + 0 ≤ _), (by decide : 5 + 0 ≤ _)⟩)
      dsimp only [Pt.U, Pt.locs, Pt.cells, Pt.slots] at X47 l47 y47 z47 st47 hQ47
      subst l47 y47 z47
      obtain ⟨rfl, N47q, e47⟩ := hQ47
      have N47 := Fr.app N46 N47q
      obtain ⟨cq48, kq48, q48a, q48b, q48c⟩ := isOf hZ e47 f37
      obtain ⟨_, _, ⟨T48, L48, k48, n48⟩, -, X48, ⟨Lc48, hQ48, l48, y48, z48⟩, st48⟩ := X47.virtualBack hx (y := (⟨"com/example/tollwright/tollwright/planner/Contract", "equals", "(Ljava/lang/Object;)Z"⟩ : MethodName)) (z := (⟨"com/example/tollwright/tollwright/planner/Contract", "equals", "(Ljava/lang/Object;)Z"⟩ : MethodName)) hown (mvT hZ (hw _ (List.mem_of_getElem? (i := 26) rfl))) (mvT hZ (hw _ (List.mem_of_getElem? (i := 27) rfl))) (notFace_of_selects (args := #[]) (mvT hZ (hw _ (List.mem_of_getElem? (i := 29) rfl)))) (mvT hZ (hw _ (List.mem_of_getElem? (i := 29) rfl))) (mvT hZ (hw _ (List.mem_of_getElem? (i := 28) rfl))) (by decide) (backOf (W := 0) (rmEl l Z a0 hw [] b9 bl36 T36.heap n0 z43 Es36 hno) hZ (hw _ (List.mem_of_getElem? (i := 30) rfl)) (hw _ (List.mem_of_getElem? (i := 7) rfl)) (by decide) (by decide)) q48a q48c (g := (mkF m 157 #[.val (.long r1), .second, .val (.long d1), .second, .val (.long r2), .second, .val (.long d2), .second, .val (.int fl), .val (.long (own_vr r1)), .second, .val (.long (d1 &&& (9223372036854775807 : Int64))), .second, .val (.long (own_vr r2)), .second, .val (.long v7), .second, .val (.ref b9), .val (.ref b16), .val (.int v32), .val (.ref bl36)] [(.ref bl36), (.ref b9)])) rfl (by rw [hml]; rfl) (Steps.refl _) (argsL := [(.ref bl36)]) (rest := []) (lenOf pd_4 rfl) rfl (by show 2 * 0 + _ ≤ _; exact Nat.le_of_eq rfl) (hb hby at_157) (fun _ _ => ⟨rfl, e47, (by decide : 3 + 0 ≤ _), (by decide : 5 + 0 ≤ _)⟩)
      dsimp only [Pt.U, Pt.locs, Pt.cells, Pt.slots] at X48 l48 y48 z48 st48 hQ48
      subst l48 y48 z48
      obtain ⟨rfl, N48q, e48⟩ := hQ48
      have N48 := Fr.app N47 N48q
      obtain ⟨fs, hr, hrun, hended, hW, hsame⟩ := X48.leave (v := some (.int (1 : Int32))) (fun h => by rw [Bd.returns] at h; cases h)
      refine ⟨_, _, k34 _ ?_, hrun, hended, _, _, rfl, ?_, ⟨_, rfl⟩, hW, hsame.mono (by decide) (by decide)⟩
      · show Steps p.tables e below (T22.setTop (mkF m 105 #[.val (.long r1), .second, .val (.long d1), .second, .val (.long r2), .second, .val (.long d2), .second, .val (.int fl), .val (.long (own_vr r1)), .second, .val (.long (d1 &&& (9223372036854775807 : Int64))), .second, .val (.long (own_vr r2)), .second, .val (.long v7), .second, .val (.ref b9), .val (.ref b16), .val (.int v32), .unset] [(.int (fl &&& (4 : Int32)))])) _
        refine XS.ifYes X22.here hx rfl (pc0 := 105) (pc' := 112) rfl (hb hby at_105) rfl ((if0 _ _).trans (teq hc35).1) (by decide) (by decide) ?_
        show Steps p.tables e below (T22.setTop (mkF m 112 #[.val (.long r1), .second, .val (.long d1), .second, .val (.long r2), .second, .val (.long d2), .second, .val (.int fl), .val (.long (own_vr r1)), .second, .val (.long (d1 &&& (9223372036854775807 : Int64))), .second, .val (.long (own_vr r2)), .second, .val (.long v7), .second, .val (.ref b9), .val (.ref b16), .val (.int v32), .unset] [])) _
        refine XS.lload X22.here hx rfl (hb hby at_112) rfl ?_
        show Steps p.tables e below (T22.setTop (mkF m 114 #[.val (.long r1), .second, .val (.long d1), .second, .val (.long r2), .second, .val (.long d2), .second, .val (.int fl), .val (.long (own_vr r1)), .second, .val (.long (d1 &&& (9223372036854775807 : Int64))), .second, .val (.long (own_vr r2)), .second, .val (.long v7), .second, .val (.ref b9), .val (.ref b16), .val (.int v32), .unset] [(.long (own_vr r1))])) _
        refine st36 _ ?_
        show Steps p.tables e below (T36.setTop (mkF m 117 #[.val (.long r1), .second, .val (.long d1), .second, .val (.long r2), .second, .val (.long d2), .second, .val (.int fl), .val (.long (own_vr r1)), .second, .val (.long (d1 &&& (9223372036854775807 : Int64))), .second, .val (.long (own_vr r2)), .second, .val (.long v7), .second, .val (.ref b9), .val (.ref b16), .val (.int v32), .unset] [(.ref bl36)])) _
        refine XS.astore X36.here hx rfl (hb hby at_117) rfl rfl (l' := #[.val (.long r1), .second, .val (.long d1), .second, .val (.long r2), .second, .val (.long d2), .second, .val (.int fl), .val (.long (own_vr r1)), .second, .val (.long (d1 &&& (9223372036854775807 : Int64))), .second, .val (.long (own_vr r2)), .second, .val (.long v7), .second, .val (.ref b9), .val (.ref b16), .val (.int v32), .val (.ref bl36)]) rfl ?_
        show Steps p.tables e below (T36.setTop (mkF m 119 #[.val (.long r1), .second, .val (.long d1), .second, .val (.long r2), .second, .val (.long d2), .second, .val (.int fl), .val (.long (own_vr r1)), .second, .val (.long (d1 &&& (9223372036854775807 : Int64))), .second, .val (.long (own_vr r2)), .second, .val (.long v7), .second, .val (.ref b9), .val (.ref b16), .val (.int v32), .val (.ref bl36)] [])) _
        refine XS.aload X36.here hx rfl (hb hby at_119) rfl rfl ?_
        show Steps p.tables e below (T36.setTop (mkF m 121 #[.val (.long r1), .second, .val (.long d1), .second, .val (.long r2), .second, .val (.long d2), .second, .val (.int fl), .val (.long (own_vr r1)), .second, .val (.long (d1 &&& (9223372036854775807 : Int64))), .second, .val (.long (own_vr r2)), .second, .val (.long v7), .second, .val (.ref b9), .val (.ref b16), .val (.int v32), .val (.ref bl36)] [(.ref b9)])) _
        refine XS.aload X36.here hx rfl (hb hby at_121) rfl rfl ?_
        show Steps p.tables e below (T36.setTop (mkF m 123 #[.val (.long r1), .second, .val (.long d1), .second, .val (.long r2), .second, .val (.long d2), .second, .val (.int fl), .val (.long (own_vr r1)), .second, .val (.long (d1 &&& (9223372036854775807 : Int64))), .second, .val (.long (own_vr r2)), .second, .val (.long v7), .second, .val (.ref b9), .val (.ref b16), .val (.int v32), .val (.ref bl36)] [(.ref b16), (.ref b9)])) _
        refine st45.trans ?_
        show Steps p.tables e below (T45.setTop (mkF m 126 #[.val (.long r1), .second, .val (.long d1), .second, .val (.long r2), .second, .val (.long d2), .second, .val (.int fl), .val (.long (own_vr r1)), .second, .val (.long (d1 &&& (9223372036854775807 : Int64))), .second, .val (.long (own_vr r2)), .second, .val (.long v7), .second, .val (.ref b9), .val (.ref b16), .val (.int v32), .val (.ref bl36)] [(.int (own_eq (own_vr r1) (d1 &&& (9223372036854775807 : Int64)) (own_vr r2) v7))])) _
        refine XS.iload X45.here hx rfl (hb hby at_126) rfl ?_
        show Steps p.tables e below (T45.setTop (mkF m 128 #[.val (.long r1), .second, .val (.long d1), .second, .val (.long r2), .second, .val (.long d2), .second, .val (.int fl), .val (.long (own_vr r1)), .second, .val (.long (d1 &&& (9223372036854775807 : Int64))), .second, .val (.long (own_vr r2)), .second, .val (.long v7), .second, .val (.ref b9), .val (.ref b16), .val (.int v32), .val (.ref bl36)] [(.int v32), (.int (own_eq (own_vr r1) (d1 &&& (9223372036854775807 : Int64)) (own_vr r2) v7))])) _
        refine XS.icmpNo X45.here hx rfl (hb hby at_128) rfl (teq hs1).2 ?_
        show Steps p.tables e below (T45.setTop (mkF m 131 #[.val (.long r1), .second, .val (.long d1), .second, .val (.long r2), .second, .val (.long d2), .second, .val (.int fl), .val (.long (own_vr r1)), .second, .val (.long (d1 &&& (9223372036854775807 : Int64))), .second, .val (.long (own_vr r2)), .second, .val (.long v7), .second, .val (.ref b9), .val (.ref b16), .val (.int v32), .val (.ref bl36)] [])) _
        refine XS.aload X45.here hx rfl (hb hby at_131) rfl rfl ?_
        show Steps p.tables e below (T45.setTop (mkF m 133 #[.val (.long r1), .second, .val (.long d1), .second, .val (.long r2), .second, .val (.long d2), .second, .val (.int fl), .val (.long (own_vr r1)), .second, .val (.long (d1 &&& (9223372036854775807 : Int64))), .second, .val (.long (own_vr r2)), .second, .val (.long v7), .second, .val (.ref b9), .val (.ref b16), .val (.int v32), .val (.ref bl36)] [(.ref b16)])) _
        refine XS.aload X45.here hx rfl (hb hby at_133) rfl rfl ?_
        show Steps p.tables e below (T45.setTop (mkF m 135 #[.val (.long r1), .second, .val (.long d1), .second, .val (.long r2), .second, .val (.long d2), .second, .val (.int fl), .val (.long (own_vr r1)), .second, .val (.long (d1 &&& (9223372036854775807 : Int64))), .second, .val (.long (own_vr r2)), .second, .val (.long v7), .second, .val (.ref b9), .val (.ref b16), .val (.int v32), .val (.ref bl36)] [(.ref b9), (.ref b16)])) _
        refine st46.trans ?_
        show Steps p.tables e below (T46.setTop (mkF m 138 #[.val (.long r1), .second, .val (.long d1), .second, .val (.long r2), .second, .val (.long d2), .second, .val (.int fl), .val (.long (own_vr r1)), .second, .val (.long (d1 &&& (9223372036854775807 : Int64))), .second, .val (.long (own_vr r2)), .second, .val (.long v7), .second, .val (.ref b9), .val (.ref b16), .val (.int v32), .val (.ref bl36)] [(.int (own_eq (own_vr r2) v7 (own_vr r1) (d1 &&& (9223372036854775807 : Int64))))])) _
        refine XS.iload X46.here hx rfl (hb hby at_138) rfl ?_
        show Steps p.tables e below (T46.setTop (mkF m 140 #[.val (.long r1), .second, .val (.long d1), .second, .val (.long r2), .second, .val (.long d2), .second, .val (.int fl), .val (.long (own_vr r1)), .second, .val (.long (d1 &&& (9223372036854775807 : Int64))), .second, .val (.long (own_vr r2)), .second, .val (.long v7), .second, .val (.ref b9), .val (.ref b16), .val (.int v32), .val (.ref bl36)] [(.int v32), (.int (own_eq (own_vr r2) v7 (own_vr r1) (d1 &&& (9223372036854775807 : Int64))))])) _
        refine XS.icmpNo X46.here hx rfl (hb hby at_140) rfl (teq hs2).2 ?_
        show Steps p.tables e below (T46.setTop (mkF m 143 #[.val (.long r1), .second, .val (.long d1), .second, .val (.long r2), .second, .val (.long d2), .second, .val (.int fl), .val (.long (own_vr r1)), .second, .val (.long (d1 &&& (9223372036854775807 : Int64))), .second, .val (.long (own_vr r2)), .second, .val (.long v7), .second, .val (.ref b9), .val (.ref b16), .val (.int v32), .val (.ref bl36)] [])) _
        refine XS.aload X46.here hx rfl (hb hby at_143) rfl rfl ?_
        show Steps p.tables e below (T46.setTop (mkF m 145 #[.val (.long r1), .second, .val (.long d1), .second, .val (.long r2), .second, .val (.long d2), .second, .val (.int fl), .val (.long (own_vr r1)), .second, .val (.long (d1 &&& (9223372036854775807 : Int64))), .second, .val (.long (own_vr r2)), .second, .val (.long v7), .second, .val (.ref b9), .val (.ref b16), .val (.int v32), .val (.ref bl36)] [(.ref b9)])) _
        refine XS.aload X46.here hx rfl (hb hby at_145) rfl rfl ?_
        show Steps p.tables e below (T46.setTop (mkF m 147 #[.val (.long r1), .second, .val (.long d1), .second, .val (.long r2), .second, .val (.long d2), .second, .val (.int fl), .val (.long (own_vr r1)), .second, .val (.long (d1 &&& (9223372036854775807 : Int64))), .second, .val (.long (own_vr r2)), .second, .val (.long v7), .second, .val (.ref b9), .val (.ref b16), .val (.int v32), .val (.ref bl36)] [(.ref b9), (.ref b9)])) _
        refine st47.trans ?_
        show Steps p.tables e below (T47.setTop (mkF m 150 #[.val (.long r1), .second, .val (.long d1), .second, .val (.long r2), .second, .val (.long d2), .second, .val (.int fl), .val (.long (own_vr r1)), .second, .val (.long (d1 &&& (9223372036854775807 : Int64))), .second, .val (.long (own_vr r2)), .second, .val (.long v7), .second, .val (.ref b9), .val (.ref b16), .val (.int v32), .val (.ref bl36)] [(.int (own_eq (own_vr r1) (d1 &&& (9223372036854775807 : Int64)) (own_vr r1) (d1 &&& (9223372036854775807 : Int64))))])) _
        refine XS.ifNo X47.here hx rfl (hb hby at_150) rfl ((if0 _ _).trans (feq (own_eq_self (own_vr r1) (d1 &&& (9223372036854775807 : Int64)))).1) ?_
        show Steps p.tables e below (T47.setTop (mkF m 153 #[.val (.long r1), .second, .val (.long d1), .second, .val (.long r2), .second, .val (.long d2), .second, .val (.int fl), .val (.long (own_vr r1)), .second, .val (.long (d1 &&& (9223372036854775807 : Int64))), .second, .val (.long (own_vr r2)), .second, .val (.long v7), .second, .val (.ref b9), .val (.ref b16), .val (.int v32), .val (.ref bl36)] [])) _
        refine XS.aload X47.here hx rfl (hb hby at_153) rfl rfl ?_
        show Steps p.tables e below (T47.setTop (mkF m 155 #[.val (.long r1), .second, .val (.long d1), .second, .val (.long r2), .second, .val (.long d2), .second, .val (.int fl), .val (.long (own_vr r1)), .second, .val (.long (d1 &&& (9223372036854775807 : Int64))), .second, .val (.long (own_vr r2)), .second, .val (.long v7), .second, .val (.ref b9), .val (.ref b16), .val (.int v32), .val (.ref bl36)] [(.ref b9)])) _
        refine XS.aload X47.here hx rfl (hb hby at_155) rfl rfl ?_
        show Steps p.tables e below (T47.setTop (mkF m 157 #[.val (.long r1), .second, .val (.long d1), .second, .val (.long r2), .second, .val (.long d2), .second, .val (.int fl), .val (.long (own_vr r1)), .second, .val (.long (d1 &&& (9223372036854775807 : Int64))), .second, .val (.long (own_vr r2)), .second, .val (.long v7), .second, .val (.ref b9), .val (.ref b16), .val (.int v32), .val (.ref bl36)] [(.ref bl36), (.ref b9)])) _
        refine st48.trans ?_
        show Steps p.tables e below (T48.setTop (mkF m 160 #[.val (.long r1), .second, .val (.long d1), .second, .val (.long r2), .second, .val (.long d2), .second, .val (.int fl), .val (.long (own_vr r1)), .second, .val (.long (d1 &&& (9223372036854775807 : Int64))), .second, .val (.long (own_vr r2)), .second, .val (.long v7), .second, .val (.ref b9), .val (.ref b16), .val (.int v32), .val (.ref bl36)] [(.int (0 : Int32))])) _
        refine XS.ifNo X48.here hx rfl (hb hby at_160) rfl ((if0 _ _).trans (teq (rfl : (0 : Int32) = (0 : Int32))).2) ?_
        show Steps p.tables e below (T48.setTop (mkF m 163 #[.val (.long r1), .second, .val (.long d1), .second, .val (.long r2), .second, .val (.long d2), .second, .val (.int fl), .val (.long (own_vr r1)), .second, .val (.long (d1 &&& (9223372036854775807 : Int64))), .second, .val (.long (own_vr r2)), .second, .val (.long v7), .second, .val (.ref b9), .val (.ref b16), .val (.int v32), .val (.ref bl36)] [])) _
        refine XS.iconst X48.here hx rfl (hb hby at_163) ?_
        show Steps p.tables e below (T48.setTop (mkF m 164 #[.val (.long r1), .second, .val (.long d1), .second, .val (.long r2), .second, .val (.long d2), .second, .val (.int fl), .val (.long (own_vr r1)), .second, .val (.long (d1 &&& (9223372036854775807 : Int64))), .second, .val (.long (own_vr r2)), .second, .val (.long v7), .second, .val (.ref b9), .val (.ref b16), .val (.int v32), .val (.ref bl36)] [(.int (1 : Int32))])) _
        refine XS.goto X48.here hx rfl (pc0 := 164) (pc' := 168) rfl (hb hby at_164) (by decide) (by decide) ?_
        show Steps p.tables e below (T48.setTop (mkF m 168 #[.val (.long r1), .second, .val (.long d1), .second, .val (.long r2), .second, .val (.long d2), .second, .val (.int fl), .val (.long (own_vr r1)), .second, .val (.long (d1 &&& (9223372036854775807 : Int64))), .second, .val (.long (own_vr r2)), .second, .val (.long v7), .second, .val (.ref b9), .val (.ref b16), .val (.int v32), .val (.ref bl36)] [(.int (1 : Int32))])) _
        exact retN X48 hx (t := .boolean) Bd.returns (by simp) (hb hby at_168) hr
      · show own_Q0 Z r1 d1 r2 d2 fl h0 n0 _ T48.heap _
        rw [e48]
        exact ⟨rfl, N48⟩
    · obtain ⟨cq49, kq49, q49a, q49b, q49c⟩ := isOf hZ rfl f23
      obtain ⟨_, _, ⟨T49, L49, k49, n49⟩, -, X49, ⟨Lc49, hQ49, l49, y49, z49⟩, st49⟩ := X22.virtualBack hx (y := (⟨"com/example/tollwright/tollwright/planner/Contract", "equals", "(Ljava/lang/Object;)Z"⟩ : MethodName)) (z := (⟨"com/example/tollwright/tollwright/planner/Contract", "equals", "(Ljava/lang/Object;)Z"⟩ : MethodName)) hown (mvT hZ (hw _ (List.mem_of_getElem? (i := 26) rfl))) (mvT hZ (hw _ (List.mem_of_getElem? (i := 27) rfl))) (notFace_of_selects (args := #[]) (mvT hZ (hw _ (List.mem_of_getElem? (i := 29) rfl)))) (mvT hZ (hw _ (List.mem_of_getElem? (i := 29) rfl))) (mvT hZ (hw _ (List.mem_of_getElem? (i := 28) rfl))) (by decide) (backOf (W := 0) (rm5 l Z a0 hw [] b9 b16 (own_vr r1) (d1 &&& (9223372036854775807 : Int64)) (own_vr r2) v7 T22.heap n0 z27 Eo22 f24 f25 Fr22 Fd22) hZ (hw _ (List.mem_of_getElem? (i := 30) rfl)) (hw _ (List.mem_of_getElem? (i := 7) rfl)) (by decide) (by decide)) q49a q49c (g := (mkF m 123 #[.val (.long r1), .second, .val (.long d1), .second, .val (.long r2), .second, .val (.long d2), .second, .val (.int fl), .val (.long (own_vr r1)), .second, .val (.long (d1 &&& (9223372036854775807 : Int64))), .second, .val (.long (own_vr r2)), .second, .val (.long v7), .second, .val (.ref b9), .val (.ref b16), .val (.int v32), .val .null] [(.ref b16), (.ref b9)])) rfl (by rw [hml]; rfl) (Steps.refl _) (argsL := [(.ref b16)]) (rest := []) (lenOf pd_4 rfl) rfl (by show 2 * 0 + _ ≤ _; exact Nat.le_of_eq rfl) (hb hby at_123) (fun _ _ => ⟨rfl, rfl, (by decide : 2 + 0 ≤ _), (by decide : 4 + 0 ≤ _)⟩)
      dsimp only [Pt.U, Pt.locs, Pt.cells, Pt.slots] at X49 l49 y49 z49 st49 hQ49
      subst l49 y49 z49
      obtain ⟨rfl, N49q, e49⟩ := hQ49
      have N49 := Fr.app N22 N49q
      obtain ⟨cq50, kq50, q50a, q50b, q50c⟩ := isOf hZ e49 Eo22
      obtain ⟨_, _, ⟨T50, L50, k50, n50⟩, -, X50, ⟨Lc50, hQ50, l50, y50, z50⟩, st50⟩ := X49.virtualBack hx (y := (⟨"com/example/tollwright/tollwright/planner/Contract", "equals", "(Ljava/lang/Object;)Z"⟩ : MethodName)) (z := (⟨"com/example/tollwright/tollwright/planner/Contract", "equals", "(Ljava/lang/Object;)Z"⟩ : MethodName)) hown (mvT hZ (hw _ (List.mem_of_getElem? (i := 26) rfl))) (mvT hZ (hw _ (List.mem_of_getElem? (i := 27) rfl))) (notFace_of_selects (args := #[]) (mvT hZ (hw _ (List.mem_of_getElem? (i := 29) rfl)))) (mvT hZ (hw _ (List.mem_of_getElem? (i := 29) rfl))) (mvT hZ (hw _ (List.mem_of_getElem? (i := 28) rfl))) (by decide) (backOf (W := 0) (rm5 l Z a0 hw [] b16 b9 (own_vr r2) v7 (own_vr r1) (d1 &&& (9223372036854775807 : Int64)) T22.heap n0 z27 f23 Fr22 Fd22 f24 f25) hZ (hw _ (List.mem_of_getElem? (i := 30) rfl)) (hw _ (List.mem_of_getElem? (i := 7) rfl)) (by decide) (by decide)) q50a q50c (g := (mkF m 135 #[.val (.long r1), .second, .val (.long d1), .second, .val (.long r2), .second, .val (.long d2), .second, .val (.int fl), .val (.long (own_vr r1)), .second, .val (.long (d1 &&& (9223372036854775807 : Int64))), .second, .val (.long (own_vr r2)), .second, .val (.long v7), .second, .val (.ref b9), .val (.ref b16), .val (.int v32), .val .null] [(.ref b9), (.ref b16)])) rfl (by rw [hml]; rfl) (Steps.refl _) (argsL := [(.ref b9)]) (rest := []) (lenOf pd_4 rfl) rfl (by show 2 * 0 + _ ≤ _; exact Nat.le_of_eq rfl) (hb hby at_135) (fun _ _ => ⟨rfl, e49, (by decide : 2 + 0 ≤ _), (by decide : 4 + 0 ≤ _)⟩)
      dsimp only [Pt.U, Pt.locs, Pt.cells, Pt.slots] at X50 l50 y50 z50 st50 hQ50
      subst l50 y50 z50
      obtain ⟨rfl, N50q, e50⟩ := hQ50
      have N50 := Fr.app N49 N50q
      obtain ⟨cq51, kq51, q51a, q51b, q51c⟩ := isOf hZ e50 f23
      obtain ⟨_, _, ⟨T51, L51, k51, n51⟩, -, X51, ⟨Lc51, hQ51, l51, y51, z51⟩, st51⟩ := X50.virtualBack hx (y := (⟨"com/example/tollwright/tollwright/planner/Contract", "equals", "(Ljava/lang/Object;)Z"⟩ : MethodName)) (z := (⟨"com/example/tollwright/tollwright/planner/Contract", "equals", "(Ljava/lang/Object;)Z"⟩ : MethodName)) hown (mvT hZ (hw _ (List.mem_of_getElem? (i := 26) rfl))) (mvT hZ (hw _ (List.mem_of_getElem? (i := 27) rfl))) (notFace_of_selects (args := #[]) (mvT hZ (hw _ (List.mem_of_getElem? (i := 29) rfl)))) (mvT hZ (hw _ (List.mem_of_getElem? (i := 29) rfl))) (mvT hZ (hw _ (List.mem_of_getElem? (i := 28) rfl))) (by decide) (backOf (W := 0) (rm5 l Z a0 hw [] b9 b9 (own_vr r1) (d1 &&& (9223372036854775807 : Int64)) (own_vr r1) (d1 &&& (9223372036854775807 : Int64)) T22.heap n0 z27 f23 f24 f25 f24 f25) hZ (hw _ (List.mem_of_getElem? (i := 30) rfl)) (hw _ (List.mem_of_getElem? (i := 7) rfl)) (by decide) (by decide)) q51a q51c (g := (mkF m 147 #[.val (.long r1), .second, .val (.long d1), .second, .val (.long r2), .second, .val (.long d2), .second, .val (.int fl), .val (.long (own_vr r1)), .second, .val (.long (d1 &&& (9223372036854775807 : Int64))), .second, .val (.long (own_vr r2)), .second, .val (.long v7), .second, .val (.ref b9), .val (.ref b16), .val (.int v32), .val .null] [(.ref b9), (.ref b9)])) rfl (by rw [hml]; rfl) (Steps.refl _) (argsL := [(.ref b9)]) (rest := []) (lenOf pd_4 rfl) rfl (by show 2 * 0 + _ ≤ _; exact Nat.le_of_eq rfl) (hb hby at_147) (fun _ _ => ⟨rfl, e50, (by decide : 2 + 0 ≤ _), (by decide : 4 + 0 ≤ _)⟩)
      dsimp only [Pt.U, Pt.locs, Pt.cells, Pt.slots] at X51 l51 y51 z51 st51 hQ51
      subst l51 y51 z51
      obtain ⟨rfl, N51q, e51⟩ := hQ51
      have N51 := Fr.app N50 N51q
      obtain ⟨cq52, kq52, q52a, q52b, q52c⟩ := isOf hZ e51 f23
      obtain ⟨_, _, ⟨T52, L52, k52, n52⟩, -, X52, ⟨Lc52, hQ52, l52, y52, z52⟩, st52⟩ := X51.virtualBack hx (y := (⟨"com/example/tollwright/tollwright/planner/Contract", "equals", "(Ljava/lang/Object;)Z"⟩ : MethodName)) (z := (⟨"com/example/tollwright/tollwright/planner/Contract", "equals", "(Ljava/lang/Object;)Z"⟩ : MethodName)) hown (mvT hZ (hw _ (List.mem_of_getElem? (i := 26) rfl))) (mvT hZ (hw _ (List.mem_of_getElem? (i := 27) rfl))) (notFace_of_selects (args := #[]) (mvT hZ (hw _ (List.mem_of_getElem? (i := 29) rfl)))) (mvT hZ (hw _ (List.mem_of_getElem? (i := 29) rfl))) (mvT hZ (hw _ (List.mem_of_getElem? (i := 28) rfl))) (by decide) (backOf (W := 0) (rmEn l Z a0 hw [] b9 T22.heap n0 z27) hZ (hw _ (List.mem_of_getElem? (i := 30) rfl)) (hw _ (List.mem_of_getElem? (i := 7) rfl)) (by decide) (by decide)) q52a q52c (g := (mkF m 157 #[.val (.long r1), .second, .val (.long d1), .second, .val (.long r2), .second, .val (.long d2), .second, .val (.int fl), .val (.long (own_vr r1)), .second, .val (.long (d1 &&& (9223372036854775807 : Int64))), .second, .val (.long (own_vr r2)), .second, .val (.long v7), .second, .val (.ref b9), .val (.ref b16), .val (.int v32), .val .null] [.null, (.ref b9)])) rfl (by rw [hml]; rfl) (Steps.refl _) (argsL := [.null]) (rest := []) (lenOf pd_4 rfl) rfl (by show 2 * 0 + _ ≤ _; exact Nat.le_of_eq rfl) (hb hby at_157) (fun _ _ => ⟨rfl, e51, (by decide : 2 + 0 ≤ _), (by decide : 4 + 0 ≤ _)⟩)
      dsimp only [Pt.U, Pt.locs, Pt.cells, Pt.slots] at X52 l52 y52 z52 st52 hQ52
      subst l52 y52 z52
      obtain ⟨rfl, N52q, e52⟩ := hQ52
      have N52 := Fr.app N51 N52q
      obtain ⟨fs, hr, hrun, hended, hW, hsame⟩ := X52.leave (v := some (.int (1 : Int32))) (fun h => by rw [Bd.returns] at h; cases h)
      refine ⟨_, _, k34 _ ?_, hrun, hended, _, _, rfl, ?_, ⟨_, rfl⟩, hW, hsame.mono (by decide) (by decide)⟩
      · show Steps p.tables e below (T22.setTop (mkF m 105 #[.val (.long r1), .second, .val (.long d1), .second, .val (.long r2), .second, .val (.long d2), .second, .val (.int fl), .val (.long (own_vr r1)), .second, .val (.long (d1 &&& (9223372036854775807 : Int64))), .second, .val (.long (own_vr r2)), .second, .val (.long v7), .second, .val (.ref b9), .val (.ref b16), .val (.int v32), .unset] [(.int (fl &&& (4 : Int32)))])) _
        refine XS.ifNo X22.here hx rfl (hb hby at_105) rfl ((if0 _ _).trans (feq hc35).1) ?_
        show Steps p.tables e below (T22.setTop (mkF m 108 #[.val (.long r1), .second, .val (.long d1), .second, .val (.long r2), .second, .val (.long d2), .second, .val (.int fl), .val (.long (own_vr r1)), .second, .val (.long (d1 &&& (9223372036854775807 : Int64))), .second, .val (.long (own_vr r2)), .second, .val (.long v7), .second, .val (.ref b9), .val (.ref b16), .val (.int v32), .unset] [])) _
        refine XS.aconstNull X22.here hx rfl (hb hby at_108) ?_
        show Steps p.tables e below (T22.setTop (mkF m 109 #[.val (.long r1), .second, .val (.long d1), .second, .val (.long r2), .second, .val (.long d2), .second, .val (.int fl), .val (.long (own_vr r1)), .second, .val (.long (d1 &&& (9223372036854775807 : Int64))), .second, .val (.long (own_vr r2)), .second, .val (.long v7), .second, .val (.ref b9), .val (.ref b16), .val (.int v32), .unset] [.null])) _
        refine XS.goto X22.here hx rfl (pc0 := 109) (pc' := 117) rfl (hb hby at_109) (by decide) (by decide) ?_
        show Steps p.tables e below (T22.setTop (mkF m 117 #[.val (.long r1), .second, .val (.long d1), .second, .val (.long r2), .second, .val (.long d2), .second, .val (.int fl), .val (.long (own_vr r1)), .second, .val (.long (d1 &&& (9223372036854775807 : Int64))), .second, .val (.long (own_vr r2)), .second, .val (.long v7), .second, .val (.ref b9), .val (.ref b16), .val (.int v32), .unset] [.null])) _
        refine XS.astore X22.here hx rfl (hb hby at_117) rfl rfl (l' := #[.val (.long r1), .second, .val (.long d1), .second, .val (.long r2), .second, .val (.long d2), .second, .val (.int fl), .val (.long (own_vr r1)), .second, .val (.long (d1 &&& (9223372036854775807 : Int64))), .second, .val (.long (own_vr r2)), .second, .val (.long v7), .second, .val (.ref b9), .val (.ref b16), .val (.int v32), .val .null]) rfl ?_
        show Steps p.tables e below (T22.setTop (mkF m 119 #[.val (.long r1), .second, .val (.long d1), .second, .val (.long r2), .second, .val (.long d2), .second, .val (.int fl), .val (.long (own_vr r1)), .second, .val (.long (d1 &&& (9223372036854775807 : Int64))), .second, .val (.long (own_vr r2)), .second, .val (.long v7), .second, .val (.ref b9), .val (.ref b16), .val (.int v32), .val .null] [])) _
        refine XS.aload X22.here hx rfl (hb hby at_119) rfl rfl ?_
        show Steps p.tables e below (T22.setTop (mkF m 121 #[.val (.long r1), .second, .val (.long d1), .second, .val (.long r2), .second, .val (.long d2), .second, .val (.int fl), .val (.long (own_vr r1)), .second, .val (.long (d1 &&& (9223372036854775807 : Int64))), .second, .val (.long (own_vr r2)), .second, .val (.long v7), .second, .val (.ref b9), .val (.ref b16), .val (.int v32), .val .null] [(.ref b9)])) _
        refine XS.aload X22.here hx rfl (hb hby at_121) rfl rfl ?_
        show Steps p.tables e below (T22.setTop (mkF m 123 #[.val (.long r1), .second, .val (.long d1), .second, .val (.long r2), .second, .val (.long d2), .second, .val (.int fl), .val (.long (own_vr r1)), .second, .val (.long (d1 &&& (9223372036854775807 : Int64))), .second, .val (.long (own_vr r2)), .second, .val (.long v7), .second, .val (.ref b9), .val (.ref b16), .val (.int v32), .val .null] [(.ref b16), (.ref b9)])) _
        refine st49.trans ?_
        show Steps p.tables e below (T49.setTop (mkF m 126 #[.val (.long r1), .second, .val (.long d1), .second, .val (.long r2), .second, .val (.long d2), .second, .val (.int fl), .val (.long (own_vr r1)), .second, .val (.long (d1 &&& (9223372036854775807 : Int64))), .second, .val (.long (own_vr r2)), .second, .val (.long v7), .second, .val (.ref b9), .val (.ref b16), .val (.int v32), .val .null] [(.int (own_eq (own_vr r1) (d1 &&& (9223372036854775807 : Int64)) (own_vr r2) v7))])) _
        refine XS.iload X49.here hx rfl (hb hby at_126) rfl ?_
        show Steps p.tables e below (T49.setTop (mkF m 128 #[.val (.long r1), .second, .val (.long d1), .second, .val (.long r2), .second, .val (.long d2), .second, .val (.int fl), .val (.long (own_vr r1)), .second, .val (.long (d1 &&& (9223372036854775807 : Int64))), .second, .val (.long (own_vr r2)), .second, .val (.long v7), .second, .val (.ref b9), .val (.ref b16), .val (.int v32), .val .null] [(.int v32), (.int (own_eq (own_vr r1) (d1 &&& (9223372036854775807 : Int64)) (own_vr r2) v7))])) _
        refine XS.icmpNo X49.here hx rfl (hb hby at_128) rfl (teq hs1).2 ?_
        show Steps p.tables e below (T49.setTop (mkF m 131 #[.val (.long r1), .second, .val (.long d1), .second, .val (.long r2), .second, .val (.long d2), .second, .val (.int fl), .val (.long (own_vr r1)), .second, .val (.long (d1 &&& (9223372036854775807 : Int64))), .second, .val (.long (own_vr r2)), .second, .val (.long v7), .second, .val (.ref b9), .val (.ref b16), .val (.int v32), .val .null] [])) _
        refine XS.aload X49.here hx rfl (hb hby at_131) rfl rfl ?_
        show Steps p.tables e below (T49.setTop (mkF m 133 #[.val (.long r1), .second, .val (.long d1), .second, .val (.long r2), .second, .val (.long d2), .second, .val (.int fl), .val (.long (own_vr r1)), .second, .val (.long (d1 &&& (9223372036854775807 : Int64))), .second, .val (.long (own_vr r2)), .second, .val (.long v7), .second, .val (.ref b9), .val (.ref b16), .val (.int v32), .val .null] [(.ref b16)])) _
        refine XS.aload X49.here hx rfl (hb hby at_133) rfl rfl ?_
        show Steps p.tables e below (T49.setTop (mkF m 135 #[.val (.long r1), .second, .val (.long d1), .second, .val (.long r2), .second, .val (.long d2), .second, .val (.int fl), .val (.long (own_vr r1)), .second, .val (.long (d1 &&& (9223372036854775807 : Int64))), .second, .val (.long (own_vr r2)), .second, .val (.long v7), .second, .val (.ref b9), .val (.ref b16), .val (.int v32), .val .null] [(.ref b9), (.ref b16)])) _
        refine st50.trans ?_
        show Steps p.tables e below (T50.setTop (mkF m 138 #[.val (.long r1), .second, .val (.long d1), .second, .val (.long r2), .second, .val (.long d2), .second, .val (.int fl), .val (.long (own_vr r1)), .second, .val (.long (d1 &&& (9223372036854775807 : Int64))), .second, .val (.long (own_vr r2)), .second, .val (.long v7), .second, .val (.ref b9), .val (.ref b16), .val (.int v32), .val .null] [(.int (own_eq (own_vr r2) v7 (own_vr r1) (d1 &&& (9223372036854775807 : Int64))))])) _
        refine XS.iload X50.here hx rfl (hb hby at_138) rfl ?_
        show Steps p.tables e below (T50.setTop (mkF m 140 #[.val (.long r1), .second, .val (.long d1), .second, .val (.long r2), .second, .val (.long d2), .second, .val (.int fl), .val (.long (own_vr r1)), .second, .val (.long (d1 &&& (9223372036854775807 : Int64))), .second, .val (.long (own_vr r2)), .second, .val (.long v7), .second, .val (.ref b9), .val (.ref b16), .val (.int v32), .val .null] [(.int v32), (.int (own_eq (own_vr r2) v7 (own_vr r1) (d1 &&& (9223372036854775807 : Int64))))])) _
        refine XS.icmpNo X50.here hx rfl (hb hby at_140) rfl (teq hs2).2 ?_
        show Steps p.tables e below (T50.setTop (mkF m 143 #[.val (.long r1), .second, .val (.long d1), .second, .val (.long r2), .second, .val (.long d2), .second, .val (.int fl), .val (.long (own_vr r1)), .second, .val (.long (d1 &&& (9223372036854775807 : Int64))), .second, .val (.long (own_vr r2)), .second, .val (.long v7), .second, .val (.ref b9), .val (.ref b16), .val (.int v32), .val .null] [])) _
        refine XS.aload X50.here hx rfl (hb hby at_143) rfl rfl ?_
        show Steps p.tables e below (T50.setTop (mkF m 145 #[.val (.long r1), .second, .val (.long d1), .second, .val (.long r2), .second, .val (.long d2), .second, .val (.int fl), .val (.long (own_vr r1)), .second, .val (.long (d1 &&& (9223372036854775807 : Int64))), .second, .val (.long (own_vr r2)), .second, .val (.long v7), .second, .val (.ref b9), .val (.ref b16), .val (.int v32), .val .null] [(.ref b9)])) _
        refine XS.aload X50.here hx rfl (hb hby at_145) rfl rfl ?_
        show Steps p.tables e below (T50.setTop (mkF m 147 #[.val (.long r1), .second, .val (.long d1), .second, .val (.long r2), .second, .val (.long d2), .second, .val (.int fl), .val (.long (own_vr r1)), .second, .val (.long (d1 &&& (9223372036854775807 : Int64))), .second, .val (.long (own_vr r2)), .second, .val (.long v7), .second, .val (.ref b9), .val (.ref b16), .val (.int v32), .val .null] [(.ref b9), (.ref b9)])) _
        refine st51.trans ?_
        show Steps p.tables e below (T51.setTop (mkF m 150 #[.val (.long r1), .second, .val (.long d1), .second, .val (.long r2), .second, .val (.long d2), .second, .val (.int fl), .val (.long (own_vr r1)), .second, .val (.long (d1 &&& (9223372036854775807 : Int64))), .second, .val (.long (own_vr r2)), .second, .val (.long v7), .second, .val (.ref b9), .val (.ref b16), .val (.int v32), .val .null] [(.int (own_eq (own_vr r1) (d1 &&& (9223372036854775807 : Int64)) (own_vr r1) (d1 &&& (9223372036854775807 : Int64))))])) _
        refine XS.ifNo X51.here hx rfl (hb hby at_150) rfl ((if0 _ _).trans (feq (own_eq_self (own_vr r1) (d1 &&& (9223372036854775807 : Int64)))).1) ?_
        show Steps p.tables e below (T51.setTop (mkF m 153 #[.val (.long r1), .second, .val (.long d1), .second, .val (.long r2), .second, .val (.long d2), .second, .val (.int fl), .val (.long (own_vr r1)), .second, .val (.long (d1 &&& (9223372036854775807 : Int64))), .second, .val (.long (own_vr r2)), .second, .val (.long v7), .second, .val (.ref b9), .val (.ref b16), .val (.int v32), .val .null] [])) _
        refine XS.aload X51.here hx rfl (hb hby at_153) rfl rfl ?_
        show Steps p.tables e below (T51.setTop (mkF m 155 #[.val (.long r1), .second, .val (.long d1), .second, .val (.long r2), .second, .val (.long d2), .second, .val (.int fl), .val (.long (own_vr r1)), .second, .val (.long (d1 &&& (9223372036854775807 : Int64))), .second, .val (.long (own_vr r2)), .second, .val (.long v7), .second, .val (.ref b9), .val (.ref b16), .val (.int v32), .val .null] [(.ref b9)])) _
        refine XS.aload X51.here hx rfl (hb hby at_155) rfl rfl ?_
        show Steps p.tables e below (T51.setTop (mkF m 157 #[.val (.long r1), .second, .val (.long d1), .second, .val (.long r2), .second, .val (.long d2), .second, .val (.int fl), .val (.long (own_vr r1)), .second, .val (.long (d1 &&& (9223372036854775807 : Int64))), .second, .val (.long (own_vr r2)), .second, .val (.long v7), .second, .val (.ref b9), .val (.ref b16), .val (.int v32), .val .null] [.null, (.ref b9)])) _
        refine st52.trans ?_
        show Steps p.tables e below (T52.setTop (mkF m 160 #[.val (.long r1), .second, .val (.long d1), .second, .val (.long r2), .second, .val (.long d2), .second, .val (.int fl), .val (.long (own_vr r1)), .second, .val (.long (d1 &&& (9223372036854775807 : Int64))), .second, .val (.long (own_vr r2)), .second, .val (.long v7), .second, .val (.ref b9), .val (.ref b16), .val (.int v32), .val .null] [(.int (0 : Int32))])) _
        refine XS.ifNo X52.here hx rfl (hb hby at_160) rfl ((if0 _ _).trans (teq (rfl : (0 : Int32) = (0 : Int32))).2) ?_
        show Steps p.tables e below (T52.setTop (mkF m 163 #[.val (.long r1), .second, .val (.long d1), .second, .val (.long r2), .second, .val (.long d2), .second, .val (.int fl), .val (.long (own_vr r1)), .second, .val (.long (d1 &&& (9223372036854775807 : Int64))), .second, .val (.long (own_vr r2)), .second, .val (.long v7), .second, .val (.ref b9), .val (.ref b16), .val (.int v32), .val .null] [])) _
        refine XS.iconst X52.here hx rfl (hb hby at_163) ?_
        show Steps p.tables e below (T52.setTop (mkF m 164 #[.val (.long r1), .second, .val (.long d1), .second, .val (.long r2), .second, .val (.long d2), .second, .val (.int fl), .val (.long (own_vr r1)), .second, .val (.long (d1 &&& (9223372036854775807 : Int64))), .second, .val (.long (own_vr r2)), .second, .val (.long v7), .second, .val (.ref b9), .val (.ref b16), .val (.int v32), .val .null] [(.int (1 : Int32))])) _
        refine XS.goto X52.here hx rfl (pc0 := 164) (pc' := 168) rfl (hb hby at_164) (by decide) (by decide) ?_
        show Steps p.tables e below (T52.setTop (mkF m 168 #[.val (.long r1), .second, .val (.long d1), .second, .val (.long r2), .second, .val (.long d2), .second, .val (.int fl), .val (.long (own_vr r1)), .second, .val (.long (d1 &&& (9223372036854775807 : Int64))), .second, .val (.long (own_vr r2)), .second, .val (.long v7), .second, .val (.ref b9), .val (.ref b16), .val (.int v32), .val .null] [(.int (1 : Int32))])) _
        exact retN X52 hx (t := .boolean) Bd.returns (by simp) (hb hby at_168) hr
      · show own_Q0 Z r1 d1 r2 d2 fl h0 n0 _ T52.heap _
        rw [e52]
        exact ⟨rfl, N52⟩
  · have k53 : ∀ tq, Steps p.tables e below (T1.setTop (mkF m 36 #[.val (.long r1), .second, .val (.long d1), .second, .val (.long r2), .second, .val (.long d2), .second, .val (.int fl), .val (.long (own_vr r1)), .second, .val (.long (d1 &&& (9223372036854775807 : Int64))), .second, .val (.long (own_vr r1)), .second, .unset, .unset, .unset, .unset, .unset, .unset] [(.int (fl &&& (2 : Int32)))])) tq → Steps p.tables e below (s₁.setTop (entryFrame m #[(.long r1), (.long d1), (.long r2), (.long d2), (.int fl)] maxLocals)) tq := by
      intro tq kt
      refine k2 tq ?_
      show Steps p.tables e below (T1.setTop (mkF m 17 #[.val (.long r1), .second, .val (.long d1), .second, .val (.long r2), .second, .val (.long d2), .second, .val (.int fl), .val (.long (own_vr r1)), .second, .val (.long (d1 &&& (9223372036854775807 : Int64))), .second, .unset, .unset, .unset, .unset, .unset, .unset, .unset, .unset] [(.int (fl &&& (1 : Int32)))])) _
      refine XS.ifNo X1.here hx rfl (hb hby at_17) rfl ((if0 _ _).trans (feq hc3).1) ?_
      show Steps p.tables e below (T1.setTop (mkF m 20 #[.val (.long r1), .second, .val (.long d1), .second, .val (.long r2), .second, .val (.long d2), .second, .val (.int fl), .val (.long (own_vr r1)), .second, .val (.long (d1 &&& (9223372036854775807 : Int64))), .second, .unset, .unset, .unset, .unset, .unset, .unset, .unset, .unset] [])) _
      refine XS.lload X1.here hx rfl (hb hby at_20) rfl ?_
      show Steps p.tables e below (T1.setTop (mkF m 22 #[.val (.long r1), .second, .val (.long d1), .second, .val (.long r2), .second, .val (.long d2), .second, .val (.int fl), .val (.long (own_vr r1)), .second, .val (.long (d1 &&& (9223372036854775807 : Int64))), .second, .unset, .unset, .unset, .unset, .unset, .unset, .unset, .unset] [(.long (own_vr r1))])) _
      refine XS.goto X1.here hx rfl (pc0 := 22) (pc' := 30) rfl (hb hby at_22) (by decide) (by decide) ?_
      show Steps p.tables e below (T1.setTop (mkF m 30 #[.val (.long r1), .second, .val (.long d1), .second, .val (.long r2), .second, .val (.long d2), .second, .val (.int fl), .val (.long (own_vr r1)), .second, .val (.long (d1 &&& (9223372036854775807 : Int64))), .second, .unset, .unset, .unset, .unset, .unset, .unset, .unset, .unset] [(.long (own_vr r1))])) _
      refine XS.lstore X1.here hx rfl (hb hby at_30) rfl (l' := #[.val (.long r1), .second, .val (.long d1), .second, .val (.long r2), .second, .val (.long d2), .second, .val (.int fl), .val (.long (own_vr r1)), .second, .val (.long (d1 &&& (9223372036854775807 : Int64))), .second, .val (.long (own_vr r1)), .second, .unset, .unset, .unset, .unset, .unset, .unset]) rfl ?_
      show Steps p.tables e below (T1.setTop (mkF m 32 #[.val (.long r1), .second, .val (.long d1), .second, .val (.long r2), .second, .val (.long d2), .second, .val (.int fl), .val (.long (own_vr r1)), .second, .val (.long (d1 &&& (9223372036854775807 : Int64))), .second, .val (.long (own_vr r1)), .second, .unset, .unset, .unset, .unset, .unset, .unset] [])) _
      refine XS.iload X1.here hx rfl (hb hby at_32) rfl ?_
      show Steps p.tables e below (T1.setTop (mkF m 34 #[.val (.long r1), .second, .val (.long d1), .second, .val (.long r2), .second, .val (.long d2), .second, .val (.int fl), .val (.long (own_vr r1)), .second, .val (.long (d1 &&& (9223372036854775807 : Int64))), .second, .val (.long (own_vr r1)), .second, .unset, .unset, .unset, .unset, .unset, .unset] [(.int fl)])) _
      refine XS.iconst X1.here hx rfl (hb hby at_34) ?_
      show Steps p.tables e below (T1.setTop (mkF m 35 #[.val (.long r1), .second, .val (.long d1), .second, .val (.long r2), .second, .val (.long d2), .second, .val (.int fl), .val (.long (own_vr r1)), .second, .val (.long (d1 &&& (9223372036854775807 : Int64))), .second, .val (.long (own_vr r1)), .second, .unset, .unset, .unset, .unset, .unset, .unset] [(.int (2 : Int32)), (.int fl)])) _
      refine XS.iand X1.here hx rfl (hb hby at_35) rfl ?_
      exact kt
    obtain ⟨v55, hv55⟩ : ∃ z : Int64, z = if (fl &&& (2 : Int32)) = (0 : Int32) then (d2 &&& (9223372036854775807 : Int64)) else (d1 &&& (9223372036854775807 : Int64)) := ⟨_, rfl⟩
    have k56 : ∀ tq, Steps p.tables e below (T1.setTop (mkF m 50 #[.val (.long r1), .second, .val (.long d1), .second, .val (.long r2), .second, .val (.long d2), .second, .val (.int fl), .val (.long (own_vr r1)), .second, .val (.long (d1 &&& (9223372036854775807 : Int64))), .second, .val (.long (own_vr r1)), .second, .unset, .unset, .unset, .unset, .unset, .unset] [(.long v55)])) tq → Steps p.tables e below (s₁.setTop (entryFrame m #[(.long r1), (.long d1), (.long r2), (.long d2), (.int fl)] maxLocals)) tq := by
      intro tq kt
      by_cases hc54 : (fl &&& (2 : Int32)) = (0 : Int32)
      · rw [if_pos hc54] at hv55
        subst hv55
        refine k53 tq ?_
        show Steps p.tables e below (T1.setTop (mkF m 36 #[.val (.long r1), .second, .val (.long d1), .second, .val (.long r2), .second, .val (.long d2), .second, .val (.int fl), .val (.long (own_vr r1)), .second, .val (.long (d1 &&& (9223372036854775807 : Int64))), .second, .val (.long (own_vr r1)), .second, .unset, .unset, .unset, .unset, .unset, .unset] [(.int (fl &&& (2 : Int32)))])) _
        refine XS.ifYes X1.here hx rfl (pc0 := 36) (pc' := 44) rfl (hb hby at_36) rfl ((if0 _ _).trans (teq hc54).1) (by decide) (by decide) ?_
        show Steps p.tables e below (T1.setTop (mkF m 44 #[.val (.long r1), .second, .val (.long d1), .second, .val (.long r2), .second, .val (.long d2), .second, .val (.int fl), .val (.long (own_vr r1)), .second, .val (.long (d1 &&& (9223372036854775807 : Int64))), .second, .val (.long (own_vr r1)), .second, .unset, .unset, .unset, .unset, .unset, .unset] [])) _
        refine XS.lload X1.here hx rfl (hb hby at_44) rfl ?_
        show Steps p.tables e below (T1.setTop (mkF m 46 #[.val (.long r1), .second, .val (.long d1), .second, .val (.long r2), .second, .val (.long d2), .second, .val (.int fl), .val (.long (own_vr r1)), .second, .val (.long (d1 &&& (9223372036854775807 : Int64))), .second, .val (.long (own_vr r1)), .second, .unset, .unset, .unset, .unset, .unset, .unset] [(.long d2)])) _
        refine X1.ldc2Long hx hown (mvT hZ (hw _ (List.mem_of_getElem? (i := 4) rfl))) (g := (mkF m 46 #[.val (.long r1), .second, .val (.long d1), .second, .val (.long r2), .second, .val (.long d2), .second, .val (.int fl), .val (.long (own_vr r1)), .second, .val (.long (d1 &&& (9223372036854775807 : Int64))), .second, .val (.long (own_vr r1)), .second, .unset, .unset, .unset, .unset, .unset, .unset] [(.long d2)])) rfl (hb hby at_46) _ ?_
        show Steps p.tables e below (T1.setTop (mkF m 49 #[.val (.long r1), .second, .val (.long d1), .second, .val (.long r2), .second, .val (.long d2), .second, .val (.int fl), .val (.long (own_vr r1)), .second, .val (.long (d1 &&& (9223372036854775807 : Int64))), .second, .val (.long (own_vr r1)), .second, .unset, .unset, .unset, .unset, .unset, .unset] [(.long (9223372036854775807 : Int64)), (.long d2)])) _
        refine XS.land X1.here hx rfl (hb hby at_49) rfl ?_
        exact kt
      · rw [if_neg hc54] at hv55
        subst hv55
        refine k53 tq ?_
        show Steps p.tables e below (T1.setTop (mkF m 36 #[.val (.long r1), .second, .val (.long d1), .second, .val (.long r2), .second, .val (.long d2), .second, .val (.int fl), .val (.long (own_vr r1)), .second, .val (.long (d1 &&& (9223372036854775807 : Int64))), .second, .val (.long (own_vr r1)), .second, .unset, .unset, .unset, .unset, .unset, .unset] [(.int (fl &&& (2 : Int32)))])) _
        refine XS.ifNo X1.here hx rfl (hb hby at_36) rfl ((if0 _ _).trans (feq hc54).1) ?_
        show Steps p.tables e below (T1.setTop (mkF m 39 #[.val (.long r1), .second, .val (.long d1), .second, .val (.long r2), .second, .val (.long d2), .second, .val (.int fl), .val (.long (own_vr r1)), .second, .val (.long (d1 &&& (9223372036854775807 : Int64))), .second, .val (.long (own_vr r1)), .second, .unset, .unset, .unset, .unset, .unset, .unset] [])) _
        refine XS.lload X1.here hx rfl (hb hby at_39) rfl ?_
        show Steps p.tables e below (T1.setTop (mkF m 41 #[.val (.long r1), .second, .val (.long d1), .second, .val (.long r2), .second, .val (.long d2), .second, .val (.int fl), .val (.long (own_vr r1)), .second, .val (.long (d1 &&& (9223372036854775807 : Int64))), .second, .val (.long (own_vr r1)), .second, .unset, .unset, .unset, .unset, .unset, .unset] [(.long (d1 &&& (9223372036854775807 : Int64)))])) _
        refine XS.goto X1.here hx rfl (pc0 := 41) (pc' := 50) rfl (hb hby at_41) (by decide) (by decide) ?_
        exact kt
    have nv55 : ¬ v55 < (0 : Int64) := by rw [hv55]; split; exact own_mask d2; exact own_mask d1
    obtain ⟨T57, h57, X57, e57, E57, A57, D57, U57, st57⟩ := newO X1 hx hZ hown (hw _ (List.mem_of_getElem? (i := 5) rfl)) (hw _ (List.mem_of_getElem? (i := 6) rfl)) (hw _ (List.mem_of_getElem? (i := 7) rfl)) e1 (g := (mkF m 52 #[.val (.long r1), .second, .val (.long d1), .second, .val (.long r2), .second, .val (.long d2), .second, .val (.int fl), .val (.long (own_vr r1)), .second, .val (.long (d1 &&& (9223372036854775807 : Int64))), .second, .val (.long (own_vr r1)), .second, .val (.long v55), .second, .unset, .unset, .unset, .unset] [])) rfl (hb hby at_52) (by decide) (by decide)
    obtain ⟨b57, g57⟩ : ∃ z, z = h0.size := ⟨_, rfl⟩
    rw [← g57] at A57 D57 U57 st57
    have g_b57 : n0 ≤ b57 := Nat.le_trans Z0 (Nat.le_of_eq g57.symm)
    have sz_b57 : h0.size ≤ b57 := Nat.le_trans (Keep.refl h0 []).1 (Nat.le_of_eq g57.symm)
    have z58 := Nat.le_trans Z0 E57.1
    have kp59 := (Keep.refl h0 []).ext E57
    have F_rate_b57 : Fld Z h57 b57 "com/example/tollwright/tollwright/planner/Contract" "rate" "J" (.long (0 : Int64)) := D57 (Or.inr (hw _ (List.mem_of_getElem? (i := 15) rfl))) (ty := .long) (by decide)
    have F_depth_b57 : Fld Z h57 b57 "com/example/tollwright/tollwright/planner/Contract" "depth" "J" (.long (0 : Int64)) := D57 (Or.inr (hw _ (List.mem_of_getElem? (i := 17) rfl))) (ty := .long) (by decide)
    obtain ⟨_, _, ⟨T60, L60, k60, n60⟩, -, X60, ⟨Lc60, hQ60, l60, y60, z60⟩, st60⟩ := X57.specialBack hx (y := (⟨"com/example/tollwright/tollwright/planner/Contract", "<init>", "(JJ)V"⟩ : MethodName)) rfl hown (mvT hZ (hw _ (List.mem_of_getElem? (i := 8) rfl))) (mvT hZ (hw _ (List.mem_of_getElem? (i := 9) rfl))) (mvT hZ (hw _ (List.mem_of_getElem? (i := 10) rfl))) (by decide) (backOf (W := 1) (rm2 l Z a0 hw [] b57 (own_vr r1) (d1 &&& (9223372036854775807 : Int64)) h57 n0 z58 A57 F_rate_b57 F_depth_b57 g_b57 (own_vr_pos r1) (own_mask d1)) hZ (hw _ (List.mem_of_getElem? (i := 10) rfl)) (hw _ (List.mem_of_getElem? (i := 7) rfl)) (by decide) (by decide)) (g := (mkF m 60 #[.val (.long r1), .second, .val (.long d1), .second, .val (.long r2), .second, .val (.long d2), .second, .val (.int fl), .val (.long (own_vr r1)), .second, .val (.long (d1 &&& (9223372036854775807 : Int64))), .second, .val (.long (own_vr r1)), .second, .val (.long v55), .second, .unset, .unset, .unset, .unset] [(.long (d1 &&& (9223372036854775807 : Int64))), (.long (own_vr r1)), (.ref b57), (.ref b57)])) rfl (by rw [hml]; rfl) (Steps.refl _) (a := b57) (argsL := [(.long (own_vr r1)), (.long (d1 &&& (9223372036854775807 : Int64)))]) (rest := [(.ref b57)]) (lenOf pd_1 rfl) rfl (by show 2 * 0 + _ ≤ _; exact Nat.le_of_eq rfl) (hb hby at_60) (fun _ _ => ⟨rfl, e57, (by decide : 1 + 0 ≤ _), (by decide : 2 + 0 ≤ _)⟩)
    dsimp only [Pt.U, Pt.locs, Pt.cells, Pt.slots] at X60 l60 y60 z60 st60 hQ60
    subst l60 y60 z60
    obtain ⟨rfl, N60q, K60, Eo60, Fr60, Fd60⟩ := hQ60
    have N60 := Fr.app N1 N60q
    have f61 := A57.keep K60
    have z62 := Nat.le_trans z58 K60.1
    have kp63 := Keep.trans kp59 K60 (allS (Or.inr sz_b57) all0)
    obtain ⟨T64, h64, X64, e64, E64, A64, D64, U64, st64⟩ := newO X60 hx hZ hown (hw _ (List.mem_of_getElem? (i := 5) rfl)) (hw _ (List.mem_of_getElem? (i := 6) rfl)) (hw _ (List.mem_of_getElem? (i := 7) rfl)) rfl (g := (mkF m 65 #[.val (.long r1), .second, .val (.long d1), .second, .val (.long r2), .second, .val (.long d2), .second, .val (.int fl), .val (.long (own_vr r1)), .second, .val (.long (d1 &&& (9223372036854775807 : Int64))), .second, .val (.long (own_vr r1)), .second, .val (.long v55), .second, .val (.ref b57), .unset, .unset, .unset] [])) rfl (hb hby at_65) (by decide) (by decide)
    obtain ⟨b64, g64⟩ : ∃ z, z = T60.heap.size := ⟨_, rfl⟩
    rw [← g64] at A64 D64 U64 st64
    have ne_b57_b64 : b57 ≠ b64 := Nat.ne_of_lt (Nat.lt_of_lt_of_le Eo60.lt (Nat.le_of_eq g64.symm))
    have g_b64 : n0 ≤ b64 := Nat.le_trans z62 (Nat.le_of_eq g64.symm)
    have sz_b64 : h0.size ≤ b64 := Nat.le_trans kp63.1 (Nat.le_of_eq g64.symm)
    have f65 := Eo60.ext E64
    have f66 := Fr60.ext E64
    have f67 := Fd60.ext E64
    have z68 := Nat.le_trans z62 E64.1
    have kp69 := kp63.ext E64
    have F_rate_b64 : Fld Z h64 b64 "com/example/tollwright/tollwright/planner/Contract" "rate" "J" (.long (0 : Int64)) := D64 (Or.inr (hw _ (List.mem_of_getElem? (i := 15) rfl))) (ty := .long) (by decide)
    have F_depth_b64 : Fld Z h64 b64 "com/example/tollwright/tollwright/planner/Contract" "depth" "J" (.long (0 : Int64)) := D64 (Or.inr (hw _ (List.mem_of_getElem? (i := 17) rfl))) (ty := .long) (by decide)
    obtain ⟨_, _, ⟨T70, L70, k70, n70⟩, -, X70, ⟨Lc70, hQ70, l70, y70, z70⟩, st70⟩ := X64.specialBack hx (y := (⟨"com/example/tollwright/tollwright/planner/Contract", "<init>", "(JJ)V"⟩ : MethodName)) rfl hown (mvT hZ (hw _ (List.mem_of_getElem? (i := 8) rfl))) (mvT hZ (hw _ (List.mem_of_getElem? (i := 9) rfl))) (mvT hZ (hw _ (List.mem_of_getElem? (i := 10) rfl))) (by decide) (backOf (W := 1) (rm2 l Z a0 hw [] b64 (own_vr r1) v55 h64 n0 z68 A64 F_rate_b64 F_depth_b64 g_b64 (own_vr_pos r1) nv55) hZ (hw _ (List.mem_of_getElem? (i := 10) rfl)) (hw _ (List.mem_of_getElem? (i := 7) rfl)) (by decide) (by decide)) (g := (mkF m 73 #[.val (.long r1), .second, .val (.long d1), .second, .val (.long r2), .second, .val (.long d2), .second, .val (.int fl), .val (.long (own_vr r1)), .second, .val (.long (d1 &&& (9223372036854775807 : Int64))), .second, .val (.long (own_vr r1)), .second, .val (.long v55), .second, .val (.ref b57), .unset, .unset, .unset] [(.long v55), (.long (own_vr r1)), (.ref b64), (.ref b64)])) rfl (by rw [hml]; rfl) (Steps.refl _) (a := b64) (argsL := [(.long (own_vr r1)), (.long v55)]) (rest := [(.ref b64)]) (lenOf pd_1 rfl) rfl (by show 2 * 0 + _ ≤ _; exact Nat.le_of_eq rfl) (hb hby at_73) (fun _ _ => ⟨rfl, e64, (by decide : 2 + 0 ≤ _), (by decide : 4 + 0 ≤ _)⟩)
    dsimp only [Pt.U, Pt.locs, Pt.cells, Pt.slots] at X70 l70 y70 z70 st70 hQ70
    subst l70 y70 z70
    obtain ⟨rfl, N70q, K70, Eo70, Fr70, Fd70⟩ := hQ70
    have N70 := Fr.app N60 N70q
    have f71 := f65.keep K70
    have f72 := f66.keep K70 (ninS ne_b57_b64 nin0)
    have f73 := f67.keep K70 (ninS ne_b57_b64 nin0)
    have f74 := A64.keep K70
    have z75 := Nat.le_trans z68 K70.1
    have kp76 := Keep.trans kp69 K70 (allS (Or.inr sz_b64) all0)
    have k77 : ∀ tq, Steps p.tables e below (T70.setTop (mkF m 83 #[.val (.long r1), .second, .val (.long d1), .second, .val (.long r2), .second, .val (.long d2), .second, .val (.int fl), .val (.long (own_vr r1)), .second, .val (.long (d1 &&& (9223372036854775807 : Int64))), .second, .val (.long (own_vr r1)), .second, .val (.long v55), .second, .val (.ref b57), .val (.ref b64), .unset, .unset] [(.int (lcmpW (own_vr r1) (own_vr r1)))])) tq → Steps p.tables e below (s₁.setTop (entryFrame m #[(.long r1), (.long d1), (.long r2), (.long d2), (.int fl)] maxLocals)) tq := by
      intro tq kt
      refine k56 tq ?_
      show Steps p.tables e below (T1.setTop (mkF m 50 #[.val (.long r1), .second, .val (.long d1), .second, .val (.long r2), .second, .val (.long d2), .second, .val (.int fl), .val (.long (own_vr r1)), .second, .val (.long (d1 &&& (9223372036854775807 : Int64))), .second, .val (.long (own_vr r1)), .second, .unset, .unset, .unset, .unset, .unset, .unset] [(.long v55)])) _
      refine XS.lstore X1.here hx rfl (hb hby at_50) rfl (l' := #[.val (.long r1), .second, .val (.long d1), .second, .val (.long r2), .second, .val (.long d2), .second, .val (.int fl), .val (.long (own_vr r1)), .second, .val (.long (d1 &&& (9223372036854775807 : Int64))), .second, .val (.long (own_vr r1)), .second, .val (.long v55), .second, .unset, .unset, .unset, .unset]) rfl ?_
      show Steps p.tables e below (T1.setTop (mkF m 52 #[.val (.long r1), .second, .val (.long d1), .second, .val (.long r2), .second, .val (.long d2), .second, .val (.int fl), .val (.long (own_vr r1)), .second, .val (.long (d1 &&& (9223372036854775807 : Int64))), .second, .val (.long (own_vr r1)), .second, .val (.long v55), .second, .unset, .unset, .unset, .unset] [])) _
      refine st57 _ ?_
      show Steps p.tables e below (T57.setTop (mkF m 55 #[.val (.long r1), .second, .val (.long d1), .second, .val (.long r2), .second, .val (.long d2), .second, .val (.int fl), .val (.long (own_vr r1)), .second, .val (.long (d1 &&& (9223372036854775807 : Int64))), .second, .val (.long (own_vr r1)), .second, .val (.long v55), .second, .unset, .unset, .unset, .unset] [(.ref b57)])) _
      refine XS.dup X57.here hx rfl (hb hby at_55) rfl rfl ?_
      show Steps p.tables e below (T57.setTop (mkF m 56 #[.val (.long r1), .second, .val (.long d1), .second, .val (.long r2), .second, .val (.long d2), .second, .val (.int fl), .val (.long (own_vr r1)), .second, .val (.long (d1 &&& (9223372036854775807 : Int64))), .second, .val (.long (own_vr r1)), .second, .val (.long v55), .second, .unset, .unset, .unset, .unset] [(.ref b57), (.ref b57)])) _
      refine XS.lload X57.here hx rfl (hb hby at_56) rfl ?_
      show Steps p.tables e below (T57.setTop (mkF m 58 #[.val (.long r1), .second, .val (.long d1), .second, .val (.long r2), .second, .val (.long d2), .second, .val (.int fl), .val (.long (own_vr r1)), .second, .val (.long (d1 &&& (9223372036854775807 : Int64))), .second, .val (.long (own_vr r1)), .second, .val (.long v55), .second, .unset, .unset, .unset, .unset] [(.long (own_vr r1)), (.ref b57), (.ref b57)])) _
      refine XS.lload X57.here hx rfl (hb hby at_58) rfl ?_
      show Steps p.tables e below (T57.setTop (mkF m 60 #[.val (.long r1), .second, .val (.long d1), .second, .val (.long r2), .second, .val (.long d2), .second, .val (.int fl), .val (.long (own_vr r1)), .second, .val (.long (d1 &&& (9223372036854775807 : Int64))), .second, .val (.long (own_vr r1)), .second, .val (.long v55), .second, .unset, .unset, .unset, .unset] [(.long (d1 &&& (9223372036854775807 : Int64))), (.long (own_vr r1)), (.ref b57), (.ref b57)])) _
      refine st60.trans ?_
      show Steps p.tables e below (T60.setTop (mkF m 63 #[.val (.long r1), .second, .val (.long d1), .second, .val (.long r2), .second, .val (.long d2), .second, .val (.int fl), .val (.long (own_vr r1)), .second, .val (.long (d1 &&& (9223372036854775807 : Int64))), .second, .val (.long (own_vr r1)), .second, .val (.long v55), .second, .unset, .unset, .unset, .unset] [(.ref b57)])) _
      refine XS.astore X60.here hx rfl (hb hby at_63) rfl rfl (l' := #[.val (.long r1), .second, .val (.long d1), .second, .val (.long r2), .second, .val (.long d2), .second, .val (.int fl), .val (.long (own_vr r1)), .second, .val (.long (d1 &&& (9223372036854775807 : Int64))), .second, .val (.long (own_vr r1)), .second, .val (.long v55), .second, .val (.ref b57), .unset, .unset, .unset]) rfl ?_
      show Steps p.tables e below (T60.setTop (mkF m 65 #[.val (.long r1), .second, .val (.long d1), .second, .val (.long r2), .second, .val (.long d2), .second, .val (.int fl), .val (.long (own_vr r1)), .second, .val (.long (d1 &&& (9223372036854775807 : Int64))), .second, .val (.long (own_vr r1)), .second, .val (.long v55), .second, .val (.ref b57), .unset, .unset, .unset] [])) _
      refine st64 _ ?_
      show Steps p.tables e below (T64.setTop (mkF m 68 #[.val (.long r1), .second, .val (.long d1), .second, .val (.long r2), .second, .val (.long d2), .second, .val (.int fl), .val (.long (own_vr r1)), .second, .val (.long (d1 &&& (9223372036854775807 : Int64))), .second, .val (.long (own_vr r1)), .second, .val (.long v55), .second, .val (.ref b57), .unset, .unset, .unset] [(.ref b64)])) _
      refine XS.dup X64.here hx rfl (hb hby at_68) rfl rfl ?_
      show Steps p.tables e below (T64.setTop (mkF m 69 #[.val (.long r1), .second, .val (.long d1), .second, .val (.long r2), .second, .val (.long d2), .second, .val (.int fl), .val (.long (own_vr r1)), .second, .val (.long (d1 &&& (9223372036854775807 : Int64))), .second, .val (.long (own_vr r1)), .second, .val (.long v55), .second, .val (.ref b57), .unset, .unset, .unset] [(.ref b64), (.ref b64)])) _
      refine XS.lload X64.here hx rfl (hb hby at_69) rfl ?_
      show Steps p.tables e below (T64.setTop (mkF m 71 #[.val (.long r1), .second, .val (.long d1), .second, .val (.long r2), .second, .val (.long d2), .second, .val (.int fl), .val (.long (own_vr r1)), .second, .val (.long (d1 &&& (9223372036854775807 : Int64))), .second, .val (.long (own_vr r1)), .second, .val (.long v55), .second, .val (.ref b57), .unset, .unset, .unset] [(.long (own_vr r1)), (.ref b64), (.ref b64)])) _
      refine XS.lload X64.here hx rfl (hb hby at_71) rfl ?_
      show Steps p.tables e below (T64.setTop (mkF m 73 #[.val (.long r1), .second, .val (.long d1), .second, .val (.long r2), .second, .val (.long d2), .second, .val (.int fl), .val (.long (own_vr r1)), .second, .val (.long (d1 &&& (9223372036854775807 : Int64))), .second, .val (.long (own_vr r1)), .second, .val (.long v55), .second, .val (.ref b57), .unset, .unset, .unset] [(.long v55), (.long (own_vr r1)), (.ref b64), (.ref b64)])) _
      refine st70.trans ?_
      show Steps p.tables e below (T70.setTop (mkF m 76 #[.val (.long r1), .second, .val (.long d1), .second, .val (.long r2), .second, .val (.long d2), .second, .val (.int fl), .val (.long (own_vr r1)), .second, .val (.long (d1 &&& (9223372036854775807 : Int64))), .second, .val (.long (own_vr r1)), .second, .val (.long v55), .second, .val (.ref b57), .unset, .unset, .unset] [(.ref b64)])) _
      refine XS.astore X70.here hx rfl (hb hby at_76) rfl rfl (l' := #[.val (.long r1), .second, .val (.long d1), .second, .val (.long r2), .second, .val (.long d2), .second, .val (.int fl), .val (.long (own_vr r1)), .second, .val (.long (d1 &&& (9223372036854775807 : Int64))), .second, .val (.long (own_vr r1)), .second, .val (.long v55), .second, .val (.ref b57), .val (.ref b64), .unset, .unset]) rfl ?_
      show Steps p.tables e below (T70.setTop (mkF m 78 #[.val (.long r1), .second, .val (.long d1), .second, .val (.long r2), .second, .val (.long d2), .second, .val (.int fl), .val (.long (own_vr r1)), .second, .val (.long (d1 &&& (9223372036854775807 : Int64))), .second, .val (.long (own_vr r1)), .second, .val (.long v55), .second, .val (.ref b57), .val (.ref b64), .unset, .unset] [])) _
      refine XS.lload X70.here hx rfl (hb hby at_78) rfl ?_
      show Steps p.tables e below (T70.setTop (mkF m 80 #[.val (.long r1), .second, .val (.long d1), .second, .val (.long r2), .second, .val (.long d2), .second, .val (.int fl), .val (.long (own_vr r1)), .second, .val (.long (d1 &&& (9223372036854775807 : Int64))), .second, .val (.long (own_vr r1)), .second, .val (.long v55), .second, .val (.ref b57), .val (.ref b64), .unset, .unset] [(.long (own_vr r1))])) _
      refine XS.lload X70.here hx rfl (hb hby at_80) rfl ?_
      show Steps p.tables e below (T70.setTop (mkF m 82 #[.val (.long r1), .second, .val (.long d1), .second, .val (.long r2), .second, .val (.long d2), .second, .val (.int fl), .val (.long (own_vr r1)), .second, .val (.long (d1 &&& (9223372036854775807 : Int64))), .second, .val (.long (own_vr r1)), .second, .val (.long v55), .second, .val (.ref b57), .val (.ref b64), .unset, .unset] [(.long (own_vr r1)), (.long (own_vr r1))])) _
      refine XS.lcmp X70.here hx rfl (hb hby at_82) rfl ?_
      exact kt
    obtain ⟨v80, hv80⟩ : ∃ z : Int32, z = (if (lcmpW (own_vr r1) (own_vr r1)) = (0 : Int32) then (if (lcmpW (d1 &&& (9223372036854775807 : Int64)) v55) = (0 : Int32) then (1 : Int32) else (0 : Int32)) else (0 : Int32)) := ⟨_, rfl⟩
    have k81 : ∀ tq, Steps p.tables e below (T70.setTop (mkF m 99 #[.val (.long r1), .second, .val (.long d1), .second, .val (.long r2), .second, .val (.long d2), .second, .val (.int fl), .val (.long (own_vr r1)), .second, .val (.long (d1 &&& (9223372036854775807 : Int64))), .second, .val (.long (own_vr r1)), .second, .val (.long v55), .second, .val (.ref b57), .val (.ref b64), .unset, .unset] [(.int v80)])) tq → Steps p.tables e below (s₁.setTop (entryFrame m #[(.long r1), (.long d1), (.long r2), (.long d2), (.int fl)] maxLocals)) tq := by
      intro tq kt
      by_cases hc78 : (lcmpW (own_vr r1) (own_vr r1)) = (0 : Int32)
      · rw [if_pos hc78] at hv80
        by_cases hc79 : (lcmpW (d1 &&& (9223372036854775807 : Int64)) v55) = (0 : Int32)
        · rw [if_pos hc79] at hv80
          subst hv80
          refine k77 tq ?_
          show Steps p.tables e below (T70.setTop (mkF m 83 #[.val (.long r1), .second, .val (.long d1), .second, .val (.long r2), .second, .val (.long d2), .second, .val (.int fl), .val (.long (own_vr r1)), .second, .val (.long (d1 &&& (9223372036854775807 : Int64))), .second, .val (.long (own_vr r1)), .second, .val (.long v55), .second, .val (.ref b57), .val (.ref b64), .unset, .unset] [(.int (lcmpW (own_vr r1) (own_vr r1)))])) _
          refine XS.ifNo X70.here hx rfl (hb hby at_83) rfl ((if0 _ _).trans (teq hc78).2) ?_
          show Steps p.tables e below (T70.setTop (mkF m 86 #[.val (.long r1), .second, .val (.long d1), .second, .val (.long r2), .second, .val (.long d2), .second, .val (.int fl), .val (.long (own_vr r1)), .second, .val (.long (d1 &&& (9223372036854775807 : Int64))), .second, .val (.long (own_vr r1)), .second, .val (.long v55), .second, .val (.ref b57), .val (.ref b64), .unset, .unset] [])) _
          refine XS.lload X70.here hx rfl (hb hby at_86) rfl ?_
          show Steps p.tables e below (T70.setTop (mkF m 88 #[.val (.long r1), .second, .val (.long d1), .second, .val (.long r2), .second, .val (.long d2), .second, .val (.int fl), .val (.long (own_vr r1)), .second, .val (.long (d1 &&& (9223372036854775807 : Int64))), .second, .val (.long (own_vr r1)), .second, .val (.long v55), .second, .val (.ref b57), .val (.ref b64), .unset, .unset] [(.long (d1 &&& (9223372036854775807 : Int64)))])) _
          refine XS.lload X70.here hx rfl (hb hby at_88) rfl ?_
          show Steps p.tables e below (T70.setTop (mkF m 90 #[.val (.long r1), .second, .val (.long d1), .second, .val (.long r2), .second, .val (.long d2), .second, .val (.int fl), .val (.long (own_vr r1)), .second, .val (.long (d1 &&& (9223372036854775807 : Int64))), .second, .val (.long (own_vr r1)), .second, .val (.long v55), .second, .val (.ref b57), .val (.ref b64), .unset, .unset] [(.long v55), (.long (d1 &&& (9223372036854775807 : Int64)))])) _
          refine XS.lcmp X70.here hx rfl (hb hby at_90) rfl ?_
          show Steps p.tables e below (T70.setTop (mkF m 91 #[.val (.long r1), .second, .val (.long d1), .second, .val (.long r2), .second, .val (.long d2), .second, .val (.int fl), .val (.long (own_vr r1)), .second, .val (.long (d1 &&& (9223372036854775807 : Int64))), .second, .val (.long (own_vr r1)), .second, .val (.long v55), .second, .val (.ref b57), .val (.ref b64), .unset, .unset] [(.int (lcmpW (d1 &&& (9223372036854775807 : Int64)) v55))])) _
          refine XS.ifNo X70.here hx rfl (hb hby at_91) rfl ((if0 _ _).trans (teq hc79).2) ?_
          show Steps p.tables e below (T70.setTop (mkF m 94 #[.val (.long r1), .second, .val (.long d1), .second, .val (.long r2), .second, .val (.long d2), .second, .val (.int fl), .val (.long (own_vr r1)), .second, .val (.long (d1 &&& (9223372036854775807 : Int64))), .second, .val (.long (own_vr r1)), .second, .val (.long v55), .second, .val (.ref b57), .val (.ref b64), .unset, .unset] [])) _
          refine XS.iconst X70.here hx rfl (hb hby at_94) ?_
          show Steps p.tables e below (T70.setTop (mkF m 95 #[.val (.long r1), .second, .val (.long d1), .second, .val (.long r2), .second, .val (.long d2), .second, .val (.int fl), .val (.long (own_vr r1)), .second, .val (.long (d1 &&& (9223372036854775807 : Int64))), .second, .val (.long (own_vr r1)), .second, .val (.long v55), .second, .val (.ref b57), .val (.ref b64), .unset, .unset] [(.int (1 : Int32))])) _
          refine XS.goto X70.here hx rfl (pc0 := 95) (pc' := 99) rfl (hb hby at_95) (by decide) (by decide) ?_
          exact kt
        · rw [if_neg hc79] at hv80
          subst hv80
          refine k77 tq ?_
          show Steps p.tables e below (T70.setTop (mkF m 83 #[.val (.long r1), .second, .val (.long d1), .second, .val (.long r2), .second, .val (.long d2), .second, .val (.int fl), .val (.long (own_vr r1)), .second, .val (.long (d1 &&& (9223372036854775807 : Int64))), .second, .val (.long (own_vr r1)), .second, .val (.long v55), .second, .val (.ref b57), .val (.ref b64), .unset, .unset] [(.int (lcmpW (own_vr r1) (own_vr r1)))])) _
          refine XS.ifNo X70.here hx rfl (hb hby at_83) rfl ((if0 _ _).trans (teq hc78).2) ?_
          show Steps p.tables e below (T70.setTop (mkF m 86 #[.val (.long r1), .second, .val (.long d1), .second, .val (.long r2), .second, .val (.long d2), .second, .val (.int fl), .val (.long (own_vr r1)), .second, .val (.long (d1 &&& (9223372036854775807 : Int64))), .second, .val (.long (own_vr r1)), .second, .val (.long v55), .second, .val (.ref b57), .val (.ref b64), .unset, .unset] [])) _
          refine XS.lload X70.here hx rfl (hb hby at_86) rfl ?_
          show Steps p.tables e below (T70.setTop (mkF m 88 #[.val (.long r1), .second, .val (.long d1), .second, .val (.long r2), .second, .val (.long d2), .second, .val (.int fl), .val (.long (own_vr r1)), .second, .val (.long (d1 &&& (9223372036854775807 : Int64))), .second, .val (.long (own_vr r1)), .second, .val (.long v55), .second, .val (.ref b57), .val (.ref b64), .unset, .unset] [(.long (d1 &&& (9223372036854775807 : Int64)))])) _
          refine XS.lload X70.here hx rfl (hb hby at_88) rfl ?_
          show Steps p.tables e below (T70.setTop (mkF m 90 #[.val (.long r1), .second, .val (.long d1), .second, .val (.long r2), .second, .val (.long d2), .second, .val (.int fl), .val (.long (own_vr r1)), .second, .val (.long (d1 &&& (9223372036854775807 : Int64))), .second, .val (.long (own_vr r1)), .second, .val (.long v55), .second, .val (.ref b57), .val (.ref b64), .unset, .unset] [(.long v55), (.long (d1 &&& (9223372036854775807 : Int64)))])) _
          refine XS.lcmp X70.here hx rfl (hb hby at_90) rfl ?_
          show Steps p.tables e below (T70.setTop (mkF m 91 #[.val (.long r1), .second, .val (.long d1), .second, .val (.long r2), .second, .val (.long d2), .second, .val (.int fl), .val (.long (own_vr r1)), .second, .val (.long (d1 &&& (9223372036854775807 : Int64))), .second, .val (.long (own_vr r1)), .second, .val (.long v55), .second, .val (.ref b57), .val (.ref b64), .unset, .unset] [(.int (lcmpW (d1 &&& (9223372036854775807 : Int64)) v55))])) _
          refine XS.ifYes X70.here hx rfl (pc0 := 91) (pc' := 98) rfl (hb hby at_91) rfl ((if0 _ _).trans (feq hc79).2) (by decide) (by decide) ?_
          show Steps p.tables e below (T70.setTop (mkF m 98 #[.val (.long r1), .second, .val (.long d1), .second, .val (.long r2), .second, .val (.long d2), .second, .val (.int fl), .val (.long (own_vr r1)), .second, .val (.long (d1 &&& (9223372036854775807 : Int64))), .second, .val (.long (own_vr r1)), .second, .val (.long v55), .second, .val (.ref b57), .val (.ref b64), .unset, .unset] [])) _
          refine XS.iconst X70.here hx rfl (hb hby at_98) ?_
          exact kt
      · rw [if_neg hc78] at hv80
        subst hv80
        refine k77 tq ?_
        show Steps p.tables e below (T70.setTop (mkF m 83 #[.val (.long r1), .second, .val (.long d1), .second, .val (.long r2), .second, .val (.long d2), .second, .val (.int fl), .val (.long (own_vr r1)), .second, .val (.long (d1 &&& (9223372036854775807 : Int64))), .second, .val (.long (own_vr r1)), .second, .val (.long v55), .second, .val (.ref b57), .val (.ref b64), .unset, .unset] [(.int (lcmpW (own_vr r1) (own_vr r1)))])) _
        refine XS.ifYes X70.here hx rfl (pc0 := 83) (pc' := 98) rfl (hb hby at_83) rfl ((if0 _ _).trans (feq hc78).2) (by decide) (by decide) ?_
        show Steps p.tables e below (T70.setTop (mkF m 98 #[.val (.long r1), .second, .val (.long d1), .second, .val (.long r2), .second, .val (.long d2), .second, .val (.int fl), .val (.long (own_vr r1)), .second, .val (.long (d1 &&& (9223372036854775807 : Int64))), .second, .val (.long (own_vr r1)), .second, .val (.long v55), .second, .val (.ref b57), .val (.ref b64), .unset, .unset] [])) _
        refine XS.iconst X70.here hx rfl (hb hby at_98) ?_
        exact kt
    have hs1 : own_eq (own_vr r1) (d1 &&& (9223372036854775807 : Int64)) (own_vr r1) v55 = v80 := by rw [hv80]; exact own_eq_symm _ _ _ _
    have hs2 : own_eq (own_vr r1) v55 (own_vr r1) (d1 &&& (9223372036854775807 : Int64)) = v80 := by rw [hv80]; rfl
    have k82 : ∀ tq, Steps p.tables e below (T70.setTop (mkF m 105 #[.val (.long r1), .second, .val (.long d1), .second, .val (.long r2), .second, .val (.long d2), .second, .val (.int fl), .val (.long (own_vr r1)), .second, .val (.long (d1 &&& (9223372036854775807 : Int64))), .second, .val (.long (own_vr r1)), .second, .val (.long v55), .second, .val (.ref b57), .val (.ref b64), .val (.int v80), .unset] [(.int (fl &&& (4 : Int32)))])) tq → Steps p.tables e below (s₁.setTop (entryFrame m #[(.long r1), (.long d1), (.long r2), (.long d2), (.int fl)] maxLocals)) tq := by
      intro tq kt
      refine k81 tq ?_
      show Steps p.tables e below (T70.setTop (mkF m 99 #[.val (.long r1), .second, .val (.long d1), .second, .val (.long r2), .second, .val (.long d2), .second, .val (.int fl), .val (.long (own_vr r1)), .second, .val (.long (d1 &&& (9223372036854775807 : Int64))), .second, .val (.long (own_vr r1)), .second, .val (.long v55), .second, .val (.ref b57), .val (.ref b64), .unset, .unset] [(.int v80)])) _
      refine XS.istore X70.here hx rfl (hb hby at_99) rfl (l' := #[.val (.long r1), .second, .val (.long d1), .second, .val (.long r2), .second, .val (.long d2), .second, .val (.int fl), .val (.long (own_vr r1)), .second, .val (.long (d1 &&& (9223372036854775807 : Int64))), .second, .val (.long (own_vr r1)), .second, .val (.long v55), .second, .val (.ref b57), .val (.ref b64), .val (.int v80), .unset]) rfl ?_
      show Steps p.tables e below (T70.setTop (mkF m 101 #[.val (.long r1), .second, .val (.long d1), .second, .val (.long r2), .second, .val (.long d2), .second, .val (.int fl), .val (.long (own_vr r1)), .second, .val (.long (d1 &&& (9223372036854775807 : Int64))), .second, .val (.long (own_vr r1)), .second, .val (.long v55), .second, .val (.ref b57), .val (.ref b64), .val (.int v80), .unset] [])) _
      refine XS.iload X70.here hx rfl (hb hby at_101) rfl ?_
      show Steps p.tables e below (T70.setTop (mkF m 103 #[.val (.long r1), .second, .val (.long d1), .second, .val (.long r2), .second, .val (.long d2), .second, .val (.int fl), .val (.long (own_vr r1)), .second, .val (.long (d1 &&& (9223372036854775807 : Int64))), .second, .val (.long (own_vr r1)), .second, .val (.long v55), .second, .val (.ref b57), .val (.ref b64), .val (.int v80), .unset] [(.int fl)])) _
      refine XS.iconst X70.here hx rfl (hb hby at_103) ?_
      show Steps p.tables e below (T70.setTop (mkF m 104 #[.val (.long r1), .second, .val (.long d1), .second, .val (.long r2), .second, .val (.long d2), .second, .val (.int fl), .val (.long (own_vr r1)), .second, .val (.long (d1 &&& (9223372036854775807 : Int64))), .second, .val (.long (own_vr r1)), .second, .val (.long v55), .second, .val (.ref b57), .val (.ref b64), .val (.int v80), .unset] [(.int (4 : Int32)), (.int fl)])) _
      refine XS.iand X70.here hx rfl (hb hby at_104) rfl ?_
      exact kt
    by_cases hc83 : (fl &&& (4 : Int32)) = (0 : Int32)
    · obtain ⟨_, _, ⟨T84, L84, k84, n84⟩, -, X84, ⟨Lc84, hQ84, l84, y84, z84⟩, st84⟩ := Jvm.LawKit.callS X70 hx (y := (⟨"java/lang/Long", "valueOf", "(J)Ljava/lang/Long;"⟩ : MethodName)) hown (mvT hZ (hw _ (List.mem_of_getElem? (i := 18) rfl))) (mvT hZ (hw _ (List.mem_of_getElem? (i := 19) rfl))) (mvT hZ (hw _ (List.mem_of_getElem? (i := 20) rfl))) (mvT hZ (hw _ (List.mem_of_getElem? (i := 21) rfl))) (by decide) (backOf (W := 0) (rmV l Z a0 hw [] (own_vr r1) ca cl T70.heap n0 z75 (own_sta_keep S_c kp76) (own_arr_keep Ar kp76) (own_cache_keep Ca kp76)) hZ (hw _ (List.mem_of_getElem? (i := 21) rfl)) (hw _ (List.mem_of_getElem? (i := 20) rfl)) (by decide) (by decide)) (g := (mkF m 114 #[.val (.long r1), .second, .val (.long d1), .second, .val (.long r2), .second, .val (.long d2), .second, .val (.int fl), .val (.long (own_vr r1)), .second, .val (.long (d1 &&& (9223372036854775807 : Int64))), .second, .val (.long (own_vr r1)), .second, .val (.long v55), .second, .val (.ref b57), .val (.ref b64), .val (.int v80), .unset] [(.long (own_vr r1))])) rfl (by rw [hml]; rfl) (argsL := [(.long (own_vr r1))]) (rest := []) (lenOf pd_3 rfl) rfl (by show 2 * 0 + _ ≤ _; exact Nat.le_of_eq rfl) (hb hby at_114) (fun _ _ => ⟨rfl, rfl, (by decide : 2 + 1 ≤ _), (by decide : 4 + 1 ≤ _)⟩)
      dsimp only [Pt.U, Pt.locs, Pt.cells, Pt.slots] at X84 l84 y84 z84 st84 hQ84
      subst l84 y84 z84
      obtain ⟨bl84, rfl, N84q, K84, Es84⟩ := hQ84
      have N84 := Fr.app N70 N84q
      have f85 := f71.keep K84
      have f86 := f72.keep K84 nin0
      have f87 := f73.keep K84 nin0
      have f88 := Eo70.keep K84
      have f89 := Fr70.keep K84 nin0
      have f90 := Fd70.keep K84 nin0
      have z91 := Nat.le_trans z75 K84.1
      have kp92 := Keep.trans kp76 K84 all0
      obtain ⟨cq93, kq93, q93a, q93b, q93c⟩ := isOf hZ rfl f85
      obtain ⟨_, _, ⟨T93, L93, k93, n93⟩, -, X93, ⟨Lc93, hQ93, l93, y93, z93⟩, st93⟩ := X84.virtualBack hx (y := (⟨"com/example/tollwright/tollwright/planner/Contract", "equals", "(Ljava/lang/Object;)Z"⟩ : MethodName)) (z := (⟨"com/example/tollwright/tollwright/planner/Contract", "equals", "(Ljava/lang/Object;)Z"⟩ : MethodName)) hown (mvT hZ (hw _ (List.mem_of_getElem? (i := 26) rfl))) (mvT hZ (hw _ (List.mem_of_getElem? (i := 27) rfl))) (notFace_of_selects (args := #[]) (mvT hZ (hw _ (List.mem_of_getElem? (i := 29) rfl)))) (mvT hZ (hw _ (List.mem_of_getElem? (i := 29) rfl))) (mvT hZ (hw _ (List.mem_of_getElem? (i := 28) rfl))) (by decide) (backOf (W := 0) (rm5 l Z a0 hw [] b57 b64 (own_vr r1) (d1 &&& (9223372036854775807 : Int64)) (own_vr r1) v55 T84.heap n0 z91 f88 f86 f87 f89 f90) hZ (hw _ (List.mem_of_getElem? (i := 30) rfl)) (hw _ (List.mem_of_getElem? (i := 7) rfl)) (by decide) (by decide)) q93a q93c (g := (mkF m 123 #[.val (.long r1), .second, .val (.long d1), .second, .val (.long r2), .second, .val (.long d2), .second, .val (.int fl), .val (.long (own_vr r1)), .second, .val (.long (d1 &&& (9223372036854775807 : Int64))), .second, .val (.long (own_vr r1)), .second, .val (.long v55), .second, .val (.ref b57), .val (.ref b64), .val (.int v80), .val (.ref bl84)] [(.ref b64), (.ref b57)])) rfl (by rw [hml]; rfl) (Steps.refl _) (argsL := [(.ref b64)]) (rest := []) (lenOf pd_4 rfl) rfl (by show 2 * 0 + _ ≤ _; exact Nat.le_of_eq rfl) (hb hby at_123) (fun _ _ => ⟨rfl, rfl, (by decide : 3 + 0 ≤ _), (by decide : 5 + 0 ≤ _)⟩)
      dsimp only [Pt.U, Pt.locs, Pt.cells, Pt.slots] at X93 l93 y93 z93 st93 hQ93
      subst l93 y93 z93
      obtain ⟨rfl, N93q, e93⟩ := hQ93
      have N93 := Fr.app N84 N93q
      obtain ⟨cq94, kq94, q94a, q94b, q94c⟩ := isOf hZ e93 f88
      obtain ⟨_, _, ⟨T94, L94, k94, n94⟩, -, X94, ⟨Lc94, hQ94, l94, y94, z94⟩, st94⟩ := X93.virtualBack hx (y := (⟨"com/example/tollwright/tollwright/planner/Contract", "equals", "(Ljava/lang/Object;)Z"⟩ : MethodName)) (z := (⟨"com/example/tollwright/tollwright/planner/Contract", "equals", "(Ljava/lang/Object;)Z"⟩ : MethodName)) hown (mvT hZ (hw _ (List.mem_of_getElem? (i := 26) rfl))) (mvT hZ (hw _ (List.mem_of_getElem? (i := 27) rfl))) (notFace_of_selects (args := #[]) (mvT hZ (hw _ (List.mem_of_getElem? (i := 29) rfl)))) (mvT hZ (hw _ (List.mem_of_getElem? (i := 29) rfl))) (mvT hZ (hw _ (List.mem_of_getElem? (i := 28) rfl))) (by decide) (backOf (W := 0) (rm5 l Z a0 hw [] b64 b57 (own_vr r1) v55 (own_vr r1) (d1 &&& (9223372036854775807 : Int64)) T84.heap n0 z91 f85 f89 f90 f86 f87) hZ (hw _ (List.mem_of_getElem? (i := 30) rfl)) (hw _ (List.mem_of_getElem? (i := 7) rfl)) (by decide) (by decide)) q94a q94c (g := (mkF m 135 #[.val (.long r1), .second, .val (.long d1), .second, .val (.long r2), .second, .val (.long d2), .second, .val (.int fl), .val (.long (own_vr r1)), .second, .val (.long (d1 &&& (9223372036854775807 : Int64))), .second, .val (.long (own_vr r1)), .second, .val (.long v55), .second, .val (.ref b57), .val (.ref b64), .val (.int v80), .val (.ref bl84)] [(.ref b57), (.ref b64)])) rfl (by rw [hml]; rfl) (Steps.refl _) (argsL := [(.ref b57)]) (rest := []) (lenOf pd_4 rfl) rfl (by show 2 * 0 + _ ≤ _; exact Nat.le_of_eq rfl) (hb hby at_135) (fun _ _ => ⟨rfl, e93, (by decide : 3 + 0 ≤ _), (by decide : 5 + 0 ≤ _)⟩)
      dsimp only [Pt.U, Pt.locs, Pt.cells, Pt.slots] at X94 l94 y94 z94 st94 hQ94
      subst l94 y94 z94
      obtain ⟨rfl, N94q, e94⟩ := hQ94
      have N94 := Fr.app N93 N94q
      obtain ⟨cq95, kq95, q95a, q95b, q95c⟩ := isOf hZ e94 f85
      obtain ⟨_, _, ⟨T95, L95, k95, n95⟩, -, X95, ⟨Lc95, hQ95, l95, y95, z95⟩, st95⟩ := X94.virtualBack hx (y := (⟨"com/example/tollwright/tollwright/planner/Contract", "equals", "(Ljava/lang/Object;)Z"⟩ : MethodName)) (z := (⟨"com/example/tollwright/tollwright/planner/Contract", "equals", "(Ljava/lang/Object;)Z"⟩ : MethodName)) hown (mvT hZ (hw _ (List.mem_of_getElem? (i := 26) rfl))) (mvT hZ (hw _ (List.mem_of_getElem? (i := 27) rfl))) (notFace_of_selects (args := #[]) (mvT hZ (hw _ (List.mem_of_getElem? (i := 29) rfl)))) (mvT hZ (hw _ (List.mem_of_getElem? (i := 29) rfl))) (mvT hZ (hw _ (List.mem_of_getElem? (i := 28) rfl))) (by decide) (backOf (W := 0) (rm5 l Z a0 hw [] b57 b57 (own_vr r1) (d1 &&& (9223372036854775807 : Int64)) (own_vr r1) (d1 &&& (9223372036854775807 : Int64)) T84.heap n0 z91 f85 f86 f87 f86 f87) hZ (hw _ (List.mem_of_getElem? (i := 30) rfl)) (hw _ (List.mem_of_getElem? (i := 7) rfl)) (by decide) (by decide)) q95a q95c (g := (mkF m 147 #[.val (.long r1), .second, .val (.long d1), .second, .val (.long r2), .second, .val (.long d2), .second, .val (.int fl), .val (.long (own_vr r1)), .second, .val (.long (d1 &&& (9223372036854775807 : Int64))), .second, .val (.long (own_vr r1)), .second, .val (.long v55), .second, .val (.ref b57), .val (.ref b64), .val (.int v80), .val (.ref bl84)] [(.ref b57), (.ref b57)])) rfl (by rw [hml]; rfl) (Steps.refl _) (argsL := [(.ref b57)]) (rest := []) (lenOf pd_4 rfl) rfl (by show 2 * 0 + _ ≤ _; exact Nat.le_of_eq rfl) (hb hby at_147) (fun _ _ => ⟨rfl, e94, (by decide : 3 + 0 ≤ _), (by decide : 5 + 0 ≤ _)⟩)
      dsimp only [Pt.U, Pt.locs, Pt.cells, Pt.slots] at X95 l95 y95 z95 st95 hQ95
      subst l95 y95 z95
      obtain ⟨rfl, N95q, e95⟩ := hQ95
      have N95 := Fr.app N94 N95q
      obtain ⟨cq96, kq96, q96a, q96b, q96c⟩ := isOf hZ e95 f85
      obtain ⟨_, _, ⟨T96, L96, k96, n96⟩, -, X96, ⟨Lc96, hQ96, l96, y96, z96⟩, st96⟩ := X95.virtualBack hx (y := (⟨"com/example/tollwright/tollwright/planner/Contract", "equals", "(Ljava/lang/Object;)Z"⟩ : MethodName)) (z := (⟨"com/example/tollwright/tollwright/planner/Contract", "equals", "(Ljava/lang/Object;)Z"⟩ : MethodName)) hown (mvT hZ (hw _ (List.mem_of_getElem? (i := 26) rfl))) (mvT hZ (hw _ (List.mem_of_getElem? (i := 27) rfl))) (notFace_of_selects (args := #[]) (mvT hZ (hw _ (List.mem_of_getElem? (i := 29) rfl)))) (mvT hZ (hw _ (List.mem_of_getElem? (i := 29) rfl))) (mvT hZ (hw _ (List.mem_of_getElem? (i := 28) rfl))) (by decide) (backOf (W := 0) (rmEl l Z a0 hw [] b57 bl84 T84.heap n0 z91 Es84 hno) hZ (hw _ (List.mem_of_getElem? (i := 30) rfl)) (hw _ (List.mem_of_getElem? (i := 7) rfl)) (by decide) (by decide)) q96a q96c (g := (mkF m 157 #[.val (.long r1), .second, .val (.long d1), .second, .val (.long r2), .second, .val (.long d2), .second, .val (.int fl), .val (.long (own_vr r1)), .second, .val (.long (d1 &&& (9223372036854775807 : Int64))), .second, .val (.long (own_vr r1)), .second, .val (.long v55), .second, .val (.ref b57), .val (.ref b64), .val (.int v80), .val (.ref bl84)] [(.ref bl84), (.ref b57)])) rfl (by rw [hml]; rfl) (Steps.refl _) (argsL := [(.ref bl84)]) (rest := []) (lenOf pd_4 rfl) rfl (by show 2 * 0 + _ ≤ _; exact Nat.le_of_eq rfl) (hb hby at_157) (fun _ _ => ⟨rfl, e95, (by decide : 3 + 0 ≤ _), (by decide : 5 + 0 ≤ _)⟩)
      dsimp only [Pt.U, Pt.locs, Pt.cells, Pt.slots] at X96 l96 y96 z96 st96 hQ96
      subst l96 y96 z96
      obtain ⟨rfl, N96q, e96⟩ := hQ96
      have N96 := Fr.app N95 N96q
      obtain ⟨fs, hr, hrun, hended, hW, hsame⟩ := X96.leave (v := some (.int (1 : Int32))) (fun h => by rw [Bd.returns] at h; cases h)
      refine ⟨_, _, k82 _ ?_, hrun, hended, _, _, rfl, ?_, ⟨_, rfl⟩, hW, hsame.mono (by decide) (by decide)⟩
      · show Steps p.tables e below (T70.setTop (mkF m 105 #[.val (.long r1), .second, .val (.long d1), .second, .val (.long r2), .second, .val (.long d2), .second, .val (.int fl), .val (.long (own_vr r1)), .second, .val (.long (d1 &&& (9223372036854775807 : Int64))), .second, .val (.long (own_vr r1)), .second, .val (.long v55), .second, .val (.ref b57), .val (.ref b64), .val (.int v80), .unset] [(.int (fl &&& (4 : Int32)))])) _
        refine XS.ifYes X70.here hx rfl (pc0 := 105) (pc' := 112) rfl (hb hby at_105) rfl ((if0 _ _).trans (teq hc83).1) (by decide) (by decide) ?_
        show Steps p.tables e below (T70.setTop (mkF m 112 #[.val (.long r1), .second, .val (.long d1), .second, .val (.long r2), .second, .val (.long d2), .second, .val (.int fl), .val (.long (own_vr r1)), .second, .val (.long (d1 &&& (9223372036854775807 : Int64))), .second, .val (.long (own_vr r1)), .second, .val (.long v55), .second, .val (.ref b57), .val (.ref b64), .val (.int v80), .unset] [])) _
        refine XS.lload X70.here hx rfl (hb hby at_112) rfl ?_
        show Steps p.tables e below (T70.setTop (mkF m 114 #[.val (.long r1), .second, .val (.long d1), .second, .val (.long r2), .second, .val (.long d2), .second, .val (.int fl), .val (.long (own_vr r1)), .second, .val (.long (d1 &&& (9223372036854775807 : Int64))), .second, .val (.long (own_vr r1)), .second, .val (.long v55), .second, .val (.ref b57), .val (.ref b64), .val (.int v80), .unset] [(.long (own_vr r1))])) _
        refine st84 _ ?_
        show Steps p.tables e below (T84.setTop (mkF m 117 #[.val (.long r1), .second, .val (.long d1), .second, .val (.long r2), .second, .val (.long d2), .second, .val (.int fl), .val (.long (own_vr r1)), .second, .val (.long (d1 &&& (9223372036854775807 : Int64))), .second, .val (.long (own_vr r1)), .second, .val (.long v55), .second, .val (.ref b57), .val (.ref b64), .val (.int v80), .unset] [(.ref bl84)])) _
        refine XS.astore X84.here hx rfl (hb hby at_117) rfl rfl (l' := #[.val (.long r1), .second, .val (.long d1), .second, .val (.long r2), .second, .val (.long d2), .second, .val (.int fl), .val (.long (own_vr r1)), .second, .val (.long (d1 &&& (9223372036854775807 : Int64))), .second, .val (.long (own_vr r1)), .second, .val (.long v55), .second, .val (.ref b57), .val (.ref b64), .val (.int v80), .val (.ref bl84)]) rfl ?_
        show Steps p.tables e below (T84.setTop (mkF m 119 #[.val (.long r1), .second, .val (.long d1), .second, .val (.long r2), .second, .val (.long d2), .second, .val (.int fl), .val (.long (own_vr r1)), .second, .val (.long (d1 &&& (9223372036854775807 : Int64))), .second, .val (.long (own_vr r1)), .second, .val (.long v55), .second, .val (.ref b57), .val (.ref b64), .val (.int v80), .val (.ref bl84)] [])) _
        refine XS.aload X84.here hx rfl (hb hby at_119) rfl rfl ?_
        show Steps p.tables e below (T84.setTop (mkF m 121 #[.val (.long r1), .second, .val (.long d1), .second, .val (.long r2), .second, .val (.long d2), .second, .val (.int fl), .val (.long (own_vr r1)), .second, .val (.long (d1 &&& (9223372036854775807 : Int64))), .second, .val (.long (own_vr r1)), .second, .val (.long v55), .second, .val (.ref b57), .val (.ref b64), .val (.int v80), .val (.ref bl84)] [(.ref b57)])) _
        refine XS.aload X84.here hx rfl (hb hby at_121) rfl rfl ?_
        show Steps p.tables e below (T84.setTop (mkF m 123 #[.val (.long r1), .second, .val (.long d1), .second, .val (.long r2), .second, .val (.long d2), .second, .val (.int fl), .val (.long (own_vr r1)), .second, .val (.long (d1 &&& (9223372036854775807 : Int64))), .second, .val (.long (own_vr r1)), .second, .val (.long v55), .second, .val (.ref b57), .val (.ref b64), .val (.int v80), .val (.ref bl84)] [(.ref b64), (.ref b57)])) _
        refine st93.trans ?_
        show Steps p.tables e below (T93.setTop (mkF m 126 #[.val (.long r1), .second, .val (.long d1), .second, .val (.long r2), .second, .val (.long d2), .second, .val (.int fl), .val (.long (own_vr r1)), .second, .val (.long (d1 &&& (9223372036854775807 : Int64))), .second, .val (.long (own_vr r1)), .second, .val (.long v55), .second, .val (.ref b57), .val (.ref b64), .val (.int v80), .val (.ref bl84)] [(.int (own_eq (own_vr r1) (d1 &&& (9223372036854775807 : Int64)) (own_vr r1) v55))])) _
        refine XS.iload X93.here hx rfl (hb hby at_126) rfl ?_
        show Steps p.tables e below (T93.setTop (mkF m 128 #[.val (.long r1), .second, .val (.long d1), .second, .val (.long r2), .second, .val (.long d2), .second, .val (.int fl), .val (.long (own_vr r1)), .second, .val (.long (d1 &&& (9223372036854775807 : Int64))), .second, .val (.long (own_vr r1)), .second, .val (.long v55), .second, .val (.ref b57), .val (.ref b64), .val (.int v80), .val (.ref bl84)] [(.int v80), (.int (own_eq (own_vr r1) (d1 &&& (9223372036854775807 : Int64)) (own_vr r1) v55))])) _
        refine XS.icmpNo X93.here hx rfl (hb hby at_128) rfl (teq hs1).2 ?_
        show Steps p.tables e below (T93.setTop (mkF m 131 #[.val (.long r1), .second, .val (.long d1), .second, .val (.long r2), .second, .val (.long d2), .second, .val (.int fl), .val (.long (own_vr r1)), .second, .val (.long (d1 &&& (9223372036854775807 : Int64))), .second, .val (.long (own_vr r1)), .second, .val (.long v55), .second, .val (.ref b57), .val (.ref b64), .val (.int v80), .val (.ref bl84)] [])) _
        refine XS.aload X93.here hx rfl (hb hby at_131) rfl rfl ?_
        show Steps p.tables e below (T93.setTop (mkF m 133 #[.val (.long r1), .second, .val (.long d1), .second, .val (.long r2), .second, .val (.long d2), .second, .val (.int fl), .val (.long (own_vr r1)), .second, .val (.long (d1 &&& (9223372036854775807 : Int64))), .second, .val (.long (own_vr r1)), .second, .val (.long v55), .second, .val (.ref b57), .val (.ref b64), .val (.int v80), .val (.ref bl84)] [(.ref b64)])) _
        refine XS.aload X93.here hx rfl (hb hby at_133) rfl rfl ?_
        show Steps p.tables e below (T93.setTop (mkF m 135 #[.val (.long r1), .second, .val (.long d1), .second, .val (.long r2), .second, .val (.long d2), .second, .val (.int fl), .val (.long (own_vr r1)), .second, .val (.long (d1 &&& (9223372036854775807 : Int64))), .second, .val (.long (own_vr r1)), .second, .val (.long v55), .second, .val (.ref b57), .val (.ref b64), .val (.int v80), .val (.ref bl84)] [(.ref b57), (.ref b64)])) _
        refine st94.trans ?_
        show Steps p.tables e below (T94.setTop (mkF m 138 #[.val (.long r1), .second, .val (.long d1), .second, .val (.long r2), .second, .val (.long d2), .second, .val (.int fl), .val (.long (own_vr r1)), .second, .val (.long (d1 &&& (9223372036854775807 : Int64))), .second, .val (.long (own_vr r1)), .second, .val (.long v55), .second, .val (.ref b57), .val (.ref b64), .val (.int v80), .val (.ref bl84)] [(.int (own_eq (own_vr r1) v55 (own_vr r1) (d1 &&& (9223372036854775807 : Int64))))])) _
        refine XS.iload X94.here hx rfl (hb hby at_138) rfl ?_
        show Steps p.tables e below (T94.setTop (mkF m 140 #[.val (.long r1), .second, .val (.long d1), .second, .val (.long r2), .second, .val (.long d2), .second, .val (.int fl), .val (.long (own_vr r1)), .second, .val (.long (d1 &&& (9223372036854775807 : Int64))), .second, .val (.long (own_vr r1)), .second, .val (.long v55), .second, .val (.ref b57), .val (.ref b64), .val (.int v80), .val (.ref bl84)] [(.int v80), (.int (own_eq (own_vr r1) v55 (own_vr r1) (d1 &&& (9223372036854775807 : Int64))))])) _
        refine XS.icmpNo X94.here hx rfl (hb hby at_140) rfl (teq hs2).2 ?_
        show Steps p.tables e below (T94.setTop (mkF m 143 #[.val (.long r1), .second, .val (.long d1), .second, .val (.long r2), .second, .val (.long d2), .second, .val (.int fl), .val (.long (own_vr r1)), .second, .val (.long (d1 &&& (9223372036854775807 : Int64))), .second, .val (.long (own_vr r1)), .second, .val (.long v55), .second, .val (.ref b57), .val (.ref b64), .val (.int v80), .val (.ref bl84)] [])) _
        refine XS.aload X94.here hx rfl (hb hby at_143) rfl rfl ?_
        show Steps p.tables e below (T94.setTop (mkF m 145 #[.val (.long r1), .second, .val (.long d1), .second, .val (.long r2), .second, .val (.long d2), .second, .val (.int fl), .val (.long (own_vr r1)), .second, .val (.long (d1 &&& (9223372036854775807 : Int64))), .second, .val (.long (own_vr r1)), .second, .val (.long v55), .second, .val (.ref b57), .val (.ref b64), .val (.int v80), .val (.ref bl84)] [(.ref b57)])) _
        refine XS.aload X94.here hx rfl (hb hby at_145) rfl rfl ?_
        show Steps p.tables e below (T94.setTop (mkF m 147 #[.val (.long r1), .second, .val (.long d1), .second, .val (.long r2), .second, .val (.long d2), .second, .val (.int fl), .val (.long (own_vr r1)), .second, .val (.long (d1 &&& (9223372036854775807 : Int64))), .second, .val (.long (own_vr r1)), .second, .val (.long v55), .second, .val (.ref b57), .val (.ref b64), .val (.int v80), .val (.ref bl84)] [(.ref b57), (.ref b57)])) _
        refine st95.trans ?_
        show Steps p.tables e below (T95.setTop (mkF m 150 #[.val (.long r1), .second, .val (.long d1), .second, .val (.long r2), .second, .val (.long d2), .second, .val (.int fl), .val (.long (own_vr r1)), .second, .val (.long (d1 &&& (9223372036854775807 : Int64))), .second, .val (.long (own_vr r1)), .second, .val (.long v55), .second, .val (.ref b57), .val (.ref b64), .val (.int v80), .val (.ref bl84)] [(.int (own_eq (own_vr r1) (d1 &&& (9223372036854775807 : Int64)) (own_vr r1) (d1 &&& (9223372036854775807 : Int64))))])) _
        refine XS.ifNo X95.here hx rfl (hb hby at_150) rfl ((if0 _ _).trans (feq (own_eq_self (own_vr r1) (d1 &&& (9223372036854775807 : Int64)))).1) ?_
        show Steps p.tables e below (T95.setTop (mkF m 153 #[.val (.long r1), .second, .val (.long d1), .second, .val (.long r2), .second, .val (.long d2), .second, .val (.int fl), .val (.long (own_vr r1)), .second, .val (.long (d1 &&& (9223372036854775807 : Int64))), .second, .val (.long (own_vr r1)), .second, .val (.long v55), .second, .val (.ref b57), .val (.ref b64), .val (.int v80), .val (.ref bl84)] [])) _
        refine XS.aload X95.here hx rfl (hb hby at_153) rfl rfl ?_
        show Steps p.tables e below (T95.setTop (mkF m 155 #[.val (.long r1), .second, .val (.long d1), .second, .val (.long r2), .second, .val (.long d2), .second, .val (.int fl), .val (.long (own_vr r1)), .second, .val (.long (d1 &&& (9223372036854775807 : Int64))), .second, .val (.long (own_vr r1)), .second, .val (.long v55), .second, .val (.ref b57), .val (.ref b64), .val (.int v80), .val (.ref bl84)] [(.ref b57)])) _
        refine XS.aload X95.here hx rfl (hb hby at_155) rfl rfl ?_
        show Steps p.tables e below (T95.setTop (mkF m 157 #[.val (.long r1), .second, .val (.long d1), .second, .val (.long r2), .second, .val (.long d2), .second, .val (.int fl), .val (.long (own_vr r1)), .second, .val (.long (d1 &&& (9223372036854775807 : Int64))), .second, .val (.long (own_vr r1)), .second, .val (.long v55), .second, .val (.ref b57), .val (.ref b64), .val (.int v80), .val (.ref bl84)] [(.ref bl84), (.ref b57)])) _
        refine st96.trans ?_
        show Steps p.tables e below (T96.setTop (mkF m 160 #[.val (.long r1), .second, .val (.long d1), .second, .val (.long r2), .second, .val (.long d2), .second, .val (.int fl), .val (.long (own_vr r1)), .second, .val (.long (d1 &&& (9223372036854775807 : Int64))), .second, .val (.long (own_vr r1)), .second, .val (.long v55), .second, .val (.ref b57), .val (.ref b64), .val (.int v80), .val (.ref bl84)] [(.int (0 : Int32))])) _
        refine XS.ifNo X96.here hx rfl (hb hby at_160) rfl ((if0 _ _).trans (teq (rfl : (0 : Int32) = (0 : Int32))).2) ?_
        show Steps p.tables e below (T96.setTop (mkF m 163 #[.val (.long r1), .second, .val (.long d1), .second, .val (.long r2), .second, .val (.long d2), .second, .val (.int fl), .val (.long (own_vr r1)), .second, .val (.long (d1 &&& (9223372036854775807 : Int64))), .second, .val (.long (own_vr r1)), .second, .val (.long v55), .second, .val (.ref b57), .val (.ref b64), .val (.int v80), .val (.ref bl84)] [])) _
        refine XS.iconst X96.here hx rfl (hb hby at_163) ?_
        show Steps p.tables e below (T96.setTop (mkF m 164 #[.val (.long r1), .second, .val (.long d1), .second, .val (.long r2), .second, .val (.long d2), .second, .val (.int fl), .val (.long (own_vr r1)), .second, .val (.long (d1 &&& (9223372036854775807 : Int64))), .second, .val (.long (own_vr r1)), .second, .val (.long v55), .second, .val (.ref b57), .val (.ref b64), .val (.int v80), .val (.ref bl84)] [(.int (1 : Int32))])) _
        refine XS.goto X96.here hx rfl (pc0 := 164) (pc' := 168) rfl (hb hby at_164) (by decide) (by decide) ?_
        show Steps p.tables e below (T96.setTop (mkF m 168 #[.val (.long r1), .second, .val (.long d1), .second, .val (.long r2), .second, .val (.long d2), .second, .val (.int fl), .val (.long (own_vr r1)), .second, .val (.long (d1 &&& (9223372036854775807 : Int64))), .second, .val (.long (own_vr r1)), .second, .val (.long v55), .second, .val (.ref b57), .val (.ref b64), .val (.int v80), .val (.ref bl84)] [(.int (1 : Int32))])) _
        exact retN X96 hx (t := .boolean) Bd.returns (by simp) (hb hby at_168) hr
      · show own_Q0 Z r1 d1 r2 d2 fl h0 n0 _ T96.heap _
        rw [e96]
        exact ⟨rfl, N96⟩
    · obtain ⟨cq97, kq97, q97a, q97b, q97c⟩ := isOf hZ rfl f71
      obtain ⟨_, _, ⟨T97, L97, k97, n97⟩, -, X97, ⟨Lc97, hQ97, l97, y97, z97⟩, st97⟩ := X70.virtualBack hx (y := (⟨"com/example/tollwright/tollwright/planner/Contract", "equals", "(Ljava/lang/Object;)Z"⟩ : MethodName)) (z := (⟨"com/example/tollwright/tollwright/planner/Contract", "equals", "(Ljava/lang/Object;)Z"⟩ : MethodName)) hown (mvT hZ (hw _ (List.mem_of_getElem? (i := 26) rfl))) (mvT hZ (hw _ (List.mem_of_getElem? (i := 27) rfl))) (notFace_of_selects (args := #[]) (mvT hZ (hw _ (List.mem_of_getElem? (i := 29) rfl)))) (mvT hZ (hw _ (List.mem_of_getElem? (i := 29) rfl))) (mvT hZ (hw _ (List.mem_of_getElem? (i := 28) rfl))) (by decide) (backOf (W := 0) (rm5 l Z a0 hw [] b57 b64 (own_vr r1) (d1 &&& (9223372036854775807 : Int64)) (own_vr r1) v55 T70.heap n0 z75 Eo70 f72 f73 Fr70 Fd70) hZ (hw _ (List.mem_of_getElem? (i := 30) rfl)) (hw _ (List.mem_of_getElem? (i := 7) rfl)) (by decide) (by decide)) q97a q97c (g := (mkF m 123 #[.val (.long r1), .second, .val (.long d1), .second, .val (.long r2), .second, .val (.long d2), .second, .val (.int fl), .val (.long (own_vr r1)), .second, .val (.long (d1 &&& (9223372036854775807 : Int64))), .second, .val (.long (own_vr r1)), .second, .val (.long v55), .second, .val (.ref b57), .val (.ref b64), .val (.int v80), .val .null] [(.ref b64), (.ref b57)])) rfl (by rw [hml]; rfl) (Steps.refl _) (argsL := [(.ref b64)]) (rest := []) (lenOf pd_4 rfl) rfl (by show 2 * 0 + _ ≤ _; exact Nat.le_of_eq rfl) (hb hby at_123) (fun _ _ => ⟨rfl, rfl, (by decide : 2 + 0 ≤ _), (by decide : 4 + 0 ≤ _)⟩)
      dsimp only [Pt.U, Pt.locs, Pt.cells, Pt.slots] at X97 l97 y97 z97 st97 hQ97
      subst l97 y97 z97
      obtain ⟨rfl, N97q, e97⟩ := hQ97
      have N97 := Fr.app N70 N97q
      obtain ⟨cq98, kq98, q98a, q98b, q98c⟩ := isOf hZ e97 Eo70
      obtain ⟨_, _, ⟨T98, L98, k98, n98⟩, -, X98, ⟨Lc98, hQ98, l98, y98, z98⟩, st98⟩ := X97.virtualBack hx (y := (⟨"com/example/tollwright/tollwright/planner/Contract", "equals", "(Ljava/lang/Object;)Z"⟩ : MethodName)) (z := (⟨"com/example/tollwright/tollwright/planner/Contract", "equals", "(Ljava/lang/Object;)Z"⟩ : MethodName)) hown (mvT hZ (hw _ (List.mem_of_getElem? (i := 26) rfl))) (mvT hZ (hw _ (List.mem_of_getElem? (i := 27) rfl))) (notFace_of_selects (args := #[]) (mvT hZ (hw _ (List.mem_of_getElem? (i := 29) rfl)))) (mvT hZ (hw _ (List.mem_of_getElem? (i := 29) rfl))) (mvT hZ (hw _ (List.mem_of_getElem? (i := 28) rfl))) (by decide) (backOf (W := 0) (rm5 l Z a0 hw [] b64 b57 (own_vr r1) v55 (own_vr r1) (d1 &&& (9223372036854775807 : Int64)) T70.heap n0 z75 f71 Fr70 Fd70 f72 f73) hZ (hw _ (List.mem_of_getElem? (i := 30) rfl)) (hw _ (List.mem_of_getElem? (i := 7) rfl)) (by decide) (by decide)) q98a q98c (g := (mkF m 135 #[.val (.long r1), .second, .val (.long d1), .second, .val (.long r2), .second, .val (.long d2), .second, .val (.int fl), .val (.long (own_vr r1)), .second, .val (.long (d1 &&& (9223372036854775807 : Int64))), .second, .val (.long (own_vr r1)), .second, .val (.long v55), .second, .val (.ref b57), .val (.ref b64), .val (.int v80), .val .null] [(.ref b57), (.ref b64)])) rfl (by rw [hml]; rfl) (Steps.refl _) (argsL := [(.ref b57)]) (rest := []) (lenOf pd_4 rfl) rfl (by show 2 * 0 + _ ≤ _; exact Nat.le_of_eq rfl) (hb hby at_135) (fun _ _ => ⟨rfl, e97, (by decide : 2 + 0 ≤ _), (by decide : 4 + 0 ≤ _)⟩)
      dsimp only [Pt.U, Pt.locs, Pt.cells, Pt.slots] at X98 l98 y98 z98 st98 hQ98
      subst l98 y98 z98
      obtain ⟨rfl, N98q, e98⟩ := hQ98
      have N98 := Fr.app N97 N98q
      obtain ⟨cq99, kq99, q99a, q99b, q99c⟩ := isOf hZ e98 f71
      obtain ⟨_, _, ⟨T99, L99, k99, n99⟩, -, X99, ⟨Lc99, hQ99, l99, y99, z99⟩, st99⟩ := X98.virtualBack hx (y := (⟨"com/example/tollwright/tollwright/planner/Contract", "equals", "(Ljava/lang/Object;)Z"⟩ : MethodName)) (z := (⟨"com/example/tollwright/tollwright/planner/Contract", "equals", "(Ljava/lang/Object;)Z"⟩ : MethodName)) hown (mvT hZ (hw _ (List.mem_of_getElem? (i := 26) rfl))) (mvT hZ (hw _ (List.mem_of_getElem? (i := 27) rfl))) (notFace_of_selects (args := #[]) (mvT hZ (hw _ (List.mem_of_getElem? (i := 29) rfl)))) (mvT hZ (hw _ (List.mem_of_getElem? (i := 29) rfl))) (mvT hZ (hw _ (List.mem_of_getElem? (i := 28) rfl))) (by decide) (backOf (W := 0) (rm5 l Z a0 hw [] b57 b57 (own_vr r1) (d1 &&& (9223372036854775807 : Int64)) (own_vr r1) (d1 &&& (9223372036854775807 : Int64)) T70.heap n0 z75 f71 f72 f73 f72 f73) hZ (hw _ (List.mem_of_getElem? (i := 30) rfl)) (hw _ (List.mem_of_getElem? (i := 7) rfl)) (by decide) (by decide)) q99a q99c (g := (mkF m 147 #[.val (.long r1), .second, .val (.long d1), .second, .val (.long r2), .second, .val (.long d2), .second, .val (.int fl), .val (.long (own_vr r1)), .second, .val (.long (d1 &&& (9223372036854775807 : Int64))), .second, .val (.long (own_vr r1)), .second, .val (.long v55), .second, .val (.ref b57), .val (.ref b64), .val (.int v80), .val .null] [(.ref b57), (.ref b57)])) rfl (by rw [hml]; rfl) (Steps.refl _) (argsL := [(.ref b57)]) (rest := []) (lenOf pd_4 rfl) rfl (by show 2 * 0 + _ ≤ _; exact Nat.le_of_eq rfl) (hb hby at_147) (fun _ _ => ⟨rfl, e98, (by decide : 2 + 0 ≤ _), (by decide : 4 + 0 ≤ _)⟩)
      dsimp only [Pt.U, Pt.locs, Pt.cells, Pt.slots] at X99 l99 y99 z99 st99 hQ99
      subst l99 y99 z99
      obtain ⟨rfl, N99q, e99⟩ := hQ99
      have N99 := Fr.app N98 N99q
      obtain ⟨cq100, kq100, q100a, q100b, q100c⟩ := isOf hZ e99 f71
      obtain ⟨_, _, ⟨T100, L100, k100, n100⟩, -, X100, ⟨Lc100, hQ100, l100, y100, z100⟩, st100⟩ := X99.virtualBack hx (y := (⟨"com/example/tollwright/tollwright/planner/Contract", "equals", "(Ljava/lang/Object;)Z"⟩ : MethodName)) (z := (⟨"com/example/tollwright/tollwright/planner/Contract", "equals", "(Ljava/lang/Object;)Z"⟩ : MethodName)) hown (mvT hZ (hw _ (List.mem_of_getElem? (i := 26) rfl))) (mvT hZ (hw _ (List.mem_of_getElem? (i := 27) rfl))) (notFace_of_selects (args := #[]) (mvT hZ (hw _ (List.mem_of_getElem? (i := 29) rfl)))) (mvT hZ (hw _ (List.mem_of_getElem? (i := 29) rfl))) (mvT hZ (hw _ (List.mem_of_getElem? (i := 28) rfl))) (by decide) (backOf (W := 0) (rmEn l Z a0 hw [] b57 T70.heap n0 z75) hZ (hw _ (List.mem_of_getElem? (i := 30) rfl)) (hw _ (List.mem_of_getElem? (i := 7) rfl)) (by decide) (by decide)) q100a q100c (g := (mkF m 157 #[.val (.long r1), .second, .val (.long d1), .second, .val (.long r2), .second, .val (.long d2), .second, .val (.int fl), .val (.long (own_vr r1)), .second, .val (.long (d1 &&& (9223372036854775807 : Int64))), .second, .val (.long (own_vr r1)), .second, .val (.long v55), .second, .val (.ref b57), .val (.ref b64), .val (.int v80), .val .null] [.null, (.ref b57)])) rfl (by rw [hml]; rfl) (Steps.refl _) (argsL := [.null]) (rest := []) (lenOf pd_4 rfl) rfl (by show 2 * 0 + _ ≤ _; exact Nat.le_of_eq rfl) (hb hby at_157) (fun _ _ => ⟨rfl, e99, (by decide : 2 + 0 ≤ _), (by decide : 4 + 0 ≤ _)⟩)
      dsimp only [Pt.U, Pt.locs, Pt.cells, Pt.slots] at X100 l100 y100 z100 st100 hQ100
      subst l100 y100 z100
      obtain ⟨rfl, N100q, e100⟩ := hQ100
      have N100 := Fr.app N99 N100q
      obtain ⟨fs, hr, hrun, hended, hW, hsame⟩ := X100.leave (v := some (.int (1 : Int32))) (fun h => by rw [Bd.returns] at h; cases h)
      refine ⟨_, _, k82 _ ?_, hrun, hended, _, _, rfl, ?_, ⟨_, rfl⟩, hW, hsame.mono (by decide) (by decide)⟩
      · show Steps p.tables e below (T70.setTop (mkF m 105 #[.val (.long r1), .second, .val (.long d1), .second, .val (.long r2), .second, .val (.long d2), .second, .val (.int fl), .val (.long (own_vr r1)), .second, .val (.long (d1 &&& (9223372036854775807 : Int64))), .second, .val (.long (own_vr r1)), .second, .val (.long v55), .second, .val (.ref b57), .val (.ref b64), .val (.int v80), .unset] [(.int (fl &&& (4 : Int32)))])) _
        refine XS.ifNo X70.here hx rfl (hb hby at_105) rfl ((if0 _ _).trans (feq hc83).1) ?_
        show Steps p.tables e below (T70.setTop (mkF m 108 #[.val (.long r1), .second, .val (.long d1), .second, .val (.long r2), .second, .val (.long d2), .second, .val (.int fl), .val (.long (own_vr r1)), .second, .val (.long (d1 &&& (9223372036854775807 : Int64))), .second, .val (.long (own_vr r1)), .second, .val (.long v55), .second, .val (.ref b57), .val (.ref b64), .val (.int v80), .unset] [])) _
        refine XS.aconstNull X70.here hx rfl (hb hby at_108) ?_
        show Steps p.tables e below (T70.setTop (mkF m 109 #[.val (.long r1), .second, .val (.long d1), .second, .val (.long r2), .second, .val (.long d2), .second, .val (.int fl), .val (.long (own_vr r1)), .second, .val (.long (d1 &&& (9223372036854775807 : Int64))), .second, .val (.long (own_vr r1)), .second, .val (.long v55), .second, .val (.ref b57), .val (.ref b64), .val (.int v80), .unset] [.null])) _
        refine XS.goto X70.here hx rfl (pc0 := 109) (pc' := 117) rfl (hb hby at_109) (by decide) (by decide) ?_
        show Steps p.tables e below (T70.setTop (mkF m 117 #[.val (.long r1), .second, .val (.long d1), .second, .val (.long r2), .second, .val (.long d2), .second, .val (.int fl), .val (.long (own_vr r1)), .second, .val (.long (d1 &&& (9223372036854775807 : Int64))), .second, .val (.long (own_vr r1)), .second, .val (.long v55), .second, .val (.ref b57), .val (.ref b64), .val (.int v80), .unset] [.null])) _
        refine XS.astore X70.here hx rfl (hb hby at_117) rfl rfl (l' := #[.val (.long r1), .second, .val (.long d1), .second, .val (.long r2), .second, .val (.long d2), .second, .val (.int fl), .val (.long (own_vr r1)), .second, .val (.long (d1 &&& (9223372036854775807 : Int64))), .second, .val (.long (own_vr r1)), .second, .val (.long v55), .second, .val (.ref b57), .val (.ref b64), .val (.int v80), .val .null]) rfl ?_
        show Steps p.tables e below (T70.setTop (mkF m 119 #[.val (.long r1), .second, .val (.long d1), .second, .val (.long r2), .second, .val (.long d2), .second, .val (.int fl), .val (.long (own_vr r1)), .second, .val (.long (d1 &&& (9223372036854775807 : Int64))), .second, .val (.long (own_vr r1)), .second, .val (.long v55), .second, .val (.ref b57), .val (.ref b64), .val (.int v80), .val .null] [])) _
        refine XS.aload X70.here hx rfl (hb hby at_119) rfl rfl ?_
        show Steps p.tables e below (T70.setTop (mkF m 121 #[.val (.long r1), .second, .val (.long d1), .second, .val (.long r2), .second, .val (.long d2), .second, .val (.int fl), .val (.long (own_vr r1)), .second, .val (.long (d1 &&& (9223372036854775807 : Int64))), .second, .val (.long (own_vr r1)), .second, .val (.long v55), .second, .val (.ref b57), .val (.ref b64), .val (.int v80), .val .null] [(.ref b57)])) _
        refine XS.aload X70.here hx rfl (hb hby at_121) rfl rfl ?_
        show Steps p.tables e below (T70.setTop (mkF m 123 #[.val (.long r1), .second, .val (.long d1), .second, .val (.long r2), .second, .val (.long d2), .second, .val (.int fl), .val (.long (own_vr r1)), .second, .val (.long (d1 &&& (9223372036854775807 : Int64))), .second, .val (.long (own_vr r1)), .second, .val (.long v55), .second, .val (.ref b57), .val (.ref b64), .val (.int v80), .val .null] [(.ref b64), (.ref b57)])) _
        refine st97.trans ?_
        show Steps p.tables e below (T97.setTop (mkF m 126 #[.val (.long r1), .second, .val (.long d1), .second, .val (.long r2), .second, .val (.long d2), .second, .val (.int fl), .val (.long (own_vr r1)), .second, .val (.long (d1 &&& (9223372036854775807 : Int64))), .second, .val (.long (own_vr r1)), .second, .val (.long v55), .second, .val (.ref b57), .val (.ref b64), .val (.int v80), .val .null] [(.int (own_eq (own_vr r1) (d1 &&& (9223372036854775807 : Int64)) (own_vr r1) v55))])) _
        refine XS.iload X97.here hx rfl (hb hby at_126) rfl ?_
        show Steps p.tables e below (T97.setTop (mkF m 128 #[.val (.long r1), .second, .val (.long d1), .second, .val (.long r2), .second, .val (.long d2), .second, .val (.int fl), .val (.long (own_vr r1)), .second, .val (.long (d1 &&& (9223372036854775807 : Int64))), .second, .val (.long (own_vr r1)), .second, .val (.long v55), .second, .val (.ref b57), .val (.ref b64), .val (.int v80), .val .null] [(.int v80), (.int (own_eq (own_vr r1) (d1 &&& (9223372036854775807 : Int64)) (own_vr r1) v55))])) _
        refine XS.icmpNo X97.here hx rfl (hb hby at_128) rfl (teq hs1).2 ?_
        show Steps p.tables e below (T97.setTop (mkF m 131 #[.val (.long r1), .second, .val (.long d1), .second, .val (.long r2), .second, .val (.long d2), .second, .val (.int fl), .val (.long (own_vr r1)), .second, .val (.long (d1 &&& (9223372036854775807 : Int64))), .second, .val (.long (own_vr r1)), .second, .val (.long v55), .second, .val (.ref b57), .val (.ref b64), .val (.int v80), .val .null] [])) _
        refine XS.aload X97.here hx rfl (hb hby at_131) rfl rfl ?_
        show Steps p.tables e below (T97.setTop (mkF m 133 #[.val (.long r1), .second, .val (.long d1), .second, .val (.long r2), .second, .val (.long d2), .second, .val (.int fl), .val (.long (own_vr r1)), .second, .val (.long (d1 &&& (9223372036854775807 : Int64))), .second, .val (.long (own_vr r1)), .second, .val (.long v55), .second, .val (.ref b57), .val (.ref b64), .val (.int v80), .val .null] [(.ref b64)])) _
        refine XS.aload X97.here hx rfl (hb hby at_133) rfl rfl ?_
        show Steps p.tables e below (T97.setTop (mkF m 135 #[.val (.long r1), .second, .val (.long d1), .second, .val (.long r2), .second, .val (.long d2), .second, .val (.int fl), .val (.long (own_vr r1)), .second, .val (.long (d1 &&& (9223372036854775807 : Int64))), .second, .val (.long (own_vr r1)), .second, .val (.long v55), .second, .val (.ref b57), .val (.ref b64), .val (.int v80), .val .null] [(.ref b57), (.ref b64)])) _
        refine st98.trans ?_
        show Steps p.tables e below (T98.setTop (mkF m 138 #[.val (.long r1), .second, .val (.long d1), .second, .val (.long r2), .second, .val (.long d2), .second, .val (.int fl), .val (.long (own_vr r1)), .second, .val (.long (d1 &&& (9223372036854775807 : Int64))), .second, .val (.long (own_vr r1)), .second, .val (.long v55), .second, .val (.ref b57), .val (.ref b64), .val (.int v80), .val .null] [(.int (own_eq (own_vr r1) v55 (own_vr r1) (d1 &&& (9223372036854775807 : Int64))))])) _
        refine XS.iload X98.here hx rfl (hb hby at_138) rfl ?_
        show Steps p.tables e below (T98.setTop (mkF m 140 #[.val (.long r1), .second, .val (.long d1), .second, .val (.long r2), .second, .val (.long d2), .second, .val (.int fl), .val (.long (own_vr r1)), .second, .val (.long (d1 &&& (9223372036854775807 : Int64))), .second, .val (.long (own_vr r1)), .second, .val (.long v55), .second, .val (.ref b57), .val (.ref b64), .val (.int v80), .val .null] [(.int v80), (.int (own_eq (own_vr r1) v55 (own_vr r1) (d1 &&& (9223372036854775807 : Int64))))])) _
        refine XS.icmpNo X98.here hx rfl (hb hby at_140) rfl (teq hs2).2 ?_
        show Steps p.tables e below (T98.setTop (mkF m 143 #[.val (.long r1), .second, .val (.long d1), .second, .val (.long r2), .second, .val (.long d2), .second, .val (.int fl), .val (.long (own_vr r1)), .second, .val (.long (d1 &&& (9223372036854775807 : Int64))), .second, .val (.long (own_vr r1)), .second, .val (.long v55), .second, .val (.ref b57), .val (.ref b64), .val (.int v80), .val .null] [])) _
        refine XS.aload X98.here hx rfl (hb hby at_143) rfl rfl ?_
        show Steps p.tables e below (T98.setTop (mkF m 145 #[.val (.long r1), .second, .val (.long d1), .second, .val (.long r2), .second, .val (.long d2), .second, .val (.int fl), .val (.long (own_vr r1)), .second, .val (.long (d1 &&& (9223372036854775807 : Int64))), .second, .val (.long (own_vr r1)), .second, .val (.long v55), .second, .val (.ref b57), .val (.ref b64), .val (.int v80), .val .null] [(.ref b57)])) _
        refine XS.aload X98.here hx rfl (hb hby at_145) rfl rfl ?_
        show Steps p.tables e below (T98.setTop (mkF m 147 #[.val (.long r1), .second, .val (.long d1), .second, .val (.long r2), .second, .val (.long d2), .second, .val (.int fl), .val (.long (own_vr r1)), .second, .val (.long (d1 &&& (9223372036854775807 : Int64))), .second, .val (.long (own_vr r1)), .second, .val (.long v55), .second, .val (.ref b57), .val (.ref b64), .val (.int v80), .val .null] [(.ref b57), (.ref b57)])) _
        refine st99.trans ?_
        show Steps p.tables e below (T99.setTop (mkF m 150 #[.val (.long r1), .second, .val (.long d1), .second, .val (.long r2), .second, .val (.long d2), .second, .val (.int fl), .val (.long (own_vr r1)), .second, .val (.long (d1 &&& (9223372036854775807 : Int64))), .second, .val (.long (own_vr r1)), .second, .val (.long v55), .second, .val (.ref b57), .val (.ref b64), .val (.int v80), .val .null] [(.int (own_eq (own_vr r1) (d1 &&& (9223372036854775807 : Int64)) (own_vr r1) (d1 &&& (9223372036854775807 : Int64))))])) _
        refine XS.ifNo X99.here hx rfl (hb hby at_150) rfl ((if0 _ _).trans (feq (own_eq_self (own_vr r1) (d1 &&& (9223372036854775807 : Int64)))).1) ?_
        show Steps p.tables e below (T99.setTop (mkF m 153 #[.val (.long r1), .second, .val (.long d1), .second, .val (.long r2), .second, .val (.long d2), .second, .val (.int fl), .val (.long (own_vr r1)), .second, .val (.long (d1 &&& (9223372036854775807 : Int64))), .second, .val (.long (own_vr r1)), .second, .val (.long v55), .second, .val (.ref b57), .val (.ref b64), .val (.int v80), .val .null] [])) _
        refine XS.aload X99.here hx rfl (hb hby at_153) rfl rfl ?_
        show Steps p.tables e below (T99.setTop (mkF m 155 #[.val (.long r1), .second, .val (.long d1), .second, .val (.long r2), .second, .val (.long d2), .second, .val (.int fl), .val (.long (own_vr r1)), .second, .val (.long (d1 &&& (9223372036854775807 : Int64))), .second, .val (.long (own_vr r1)), .second, .val (.long v55), .second, .val (.ref b57), .val (.ref b64), .val (.int v80), .val .null] [(.ref b57)])) _
        refine XS.aload X99.here hx rfl (hb hby at_155) rfl rfl ?_
        show Steps p.tables e below (T99.setTop (mkF m 157 #[.val (.long r1), .second, .val (.long d1), .second, .val (.long r2), .second, .val (.long d2), .second, .val (.int fl), .val (.long (own_vr r1)), .second, .val (.long (d1 &&& (9223372036854775807 : Int64))), .second, .val (.long (own_vr r1)), .second, .val (.long v55), .second, .val (.ref b57), .val (.ref b64), .val (.int v80), .val .null] [.null, (.ref b57)])) _
        refine st100.trans ?_
        show Steps p.tables e below (T100.setTop (mkF m 160 #[.val (.long r1), .second, .val (.long d1), .second, .val (.long r2), .second, .val (.long d2), .second, .val (.int fl), .val (.long (own_vr r1)), .second, .val (.long (d1 &&& (9223372036854775807 : Int64))), .second, .val (.long (own_vr r1)), .second, .val (.long v55), .second, .val (.ref b57), .val (.ref b64), .val (.int v80), .val .null] [(.int (0 : Int32))])) _
        refine XS.ifNo X100.here hx rfl (hb hby at_160) rfl ((if0 _ _).trans (teq (rfl : (0 : Int32) = (0 : Int32))).2) ?_
        show Steps p.tables e below (T100.setTop (mkF m 163 #[.val (.long r1), .second, .val (.long d1), .second, .val (.long r2), .second, .val (.long d2), .second, .val (.int fl), .val (.long (own_vr r1)), .second, .val (.long (d1 &&& (9223372036854775807 : Int64))), .second, .val (.long (own_vr r1)), .second, .val (.long v55), .second, .val (.ref b57), .val (.ref b64), .val (.int v80), .val .null] [])) _
        refine XS.iconst X100.here hx rfl (hb hby at_163) ?_
        show Steps p.tables e below (T100.setTop (mkF m 164 #[.val (.long r1), .second, .val (.long d1), .second, .val (.long r2), .second, .val (.long d2), .second, .val (.int fl), .val (.long (own_vr r1)), .second, .val (.long (d1 &&& (9223372036854775807 : Int64))), .second, .val (.long (own_vr r1)), .second, .val (.long v55), .second, .val (.ref b57), .val (.ref b64), .val (.int v80), .val .null] [(.int (1 : Int32))])) _
        refine XS.goto X100.here hx rfl (pc0 := 164) (pc' := 168) rfl (hb hby at_164) (by decide) (by decide) ?_
        show Steps p.tables e below (T100.setTop (mkF m 168 #[.val (.long r1), .second, .val (.long d1), .second, .val (.long r2), .second, .val (.long d2), .second, .val (.int fl), .val (.long (own_vr r1)), .second, .val (.long (d1 &&& (9223372036854775807 : Int64))), .second, .val (.long (own_vr r1)), .second, .val (.long v55), .second, .val (.ref b57), .val (.ref b64), .val (.int v80), .val .null] [(.int (1 : Int32))])) _
        exact retN X100 hx (t := .boolean) Bd.returns (by simp) (hb hby at_168) hr
      · show own_Q0 Z r1 d1 r2 d2 fl h0 n0 _ T100.heap _
        rw [e100]
        exact ⟨rfl, N100⟩
set_option maxRecDepth 65536 in
set_option maxHeartbeats 40000000 in
theorem comes_1 {Post : Tables → Env → Array Value → State → Outcome → State → Prop} (hpost : ∀ tb e args s v u, (limb_1_1.after args s (.returned v) u = true ∧ limb_1_2.after args s (.returned v) u = true ∧ True) → FrameEnd s (.returned v) u (Jvm.fieldLocs frame_1_writes args s ++ Jvm.arrayLocs frame_1_arrays args s ++ Jvm.staticLocs frame_1_statics s) 16 128 → Post tb e args s (.returned v) u) :
    ArmFor flags0 classFile x code maxLocals ret World_1 tables_1 room_1 Calls_1 rest_1 Pre_1 Post := by
  intro l hfl _ _ p e ha hc hk s m args below hf hA hF happ hP
  obtain ⟨hcalls, hrest, hpre⟩ := hP
  obtain ⟨-, -, -, hnamed, -, -, -, hat⟩ := (Spec.applies_iff hf).mp happ
  obtain ⟨hg, hn⟩ := and_e (Cond.before_iff.mp (show (Jvm.Cond.and given_1 narrow_1).before args s = true from hpre))
  obtain ⟨hcount, hg0⟩ := and_e hg
  obtain ⟨hv0, hg1⟩ := and_e hg0
  obtain ⟨hv1, hg2⟩ := and_e hg1
  obtain ⟨hv2, hg3⟩ := and_e hg2
  obtain ⟨hv3, hg4⟩ := and_e hg3
  have hv4 := hg4
  obtain ⟨w0, w1, w2, w3, w4, rfl⟩ : ∃ w0 w1 w2 w3 w4 : Value, args = #[w0, w1, w2, w3, w4] := by
    have hs : args.size = 5 := by simpa [Cond.value, given_1] using hcount
    obtain ⟨L⟩ := args
    match L, hs with
    | [w0, w1, w2, w3, w4], _ => exact ⟨w0, w1, w2, w3, w4, rfl⟩
  have hw := fun d (hd : d ∈ tables_1) => atoms_spec (ws := Jvm.Cond.code x code maxLocals ret :: tables_1) hat d (List.mem_cons_of_mem _ hd)
  have hfit : Fit s := fun {y c} hc i hi => by
    obtain ⟨ha, rfl⟩ := Array.getElem?_eq_some_iff.mp hc
    have q := List.all_eq_true.mp ((Array.all_eq_true_iff_forall_mem.mp hF) _ (Array.getElem_mem ha)) i (List.mem_range.mpr hi)
    simpa [Array.getElem?_eq_getElem hi] using q
  obtain ⟨i0, ei0⟩ := isL_v hv0
  obtain rfl : w0 = (.long i0) := Option.some.inj ei0
  obtain ⟨i1, ei1⟩ := isL_v hv1
  obtain rfl : w1 = (.long i1) := Option.some.inj ei1
  obtain ⟨i2, ei2⟩ := isL_v hv2
  obtain rfl : w2 = (.long i2) := Option.some.inj ei2
  obtain ⟨i3, ei3⟩ := isL_v hv3
  obtain rfl : w3 = (.long i3) := Option.some.inj ei3
  obtain ⟨i4, ei4⟩ := is_v hv4
  obtain rfl : w4 = (.int i4) := Option.some.inj ei4
  obtain ⟨hsets, hown0⟩ := atoms_of _ (rest_1_c_eq ▸ (show rest_1_c.before _ s = true from hrest))
  have hA2 := Cond.before_iff.mp (hsets _ (List.mem_of_getElem? (i := 2) rfl))
  obtain ⟨ca, eca⟩ := arr_v hA2
  have S_c : Sta s s.heap "java/lang/Long$LongCache" "cache" "[Ljava/lang/Long;" (.ref ca) := Sta.start eca (Or.inl (hsets _ (List.mem_of_getElem? (i := 1) rfl)))
  obtain ⟨cl, Ar⟩ := Arr.start eca hA2
  have hfin := Ar.fin (Vm.Alike.refl _)
  have hsz : cl.slots.size = 256 := by
    have h4 := Cond.before_iff.mp (hsets _ (List.mem_of_getElem? (i := 4) rfl))
    by_cases hl : cl.slots.size < 2 ^ 31
    · have e0 := (len_f eca hfin hl).symm.trans (eqv_i (Term.int_eval (256)) h4)
      have e : cl.slots.size.toInt32 = (256 : Int32) := by injection (Option.some.inj e0)
      have e2 := congrArg Int32.toInt e
      rw [len_toInt hl] at e2
      have e3 : (256 : Int32).toInt = 256 := by decide
      omega
    · exfalso; simp [Cond.value, Term.eval] at h4; simp [Term.eval] at eca; simp [eca, hfin, hl] at h4
  have Ca : own_Cache s s.heap cl := ⟨hsz, fun j hj => by
    have hi : j.toNatClampNeg < cl.slots.size := Nat.lt_of_not_le fun y => hj (Or.inr y)
    have q := Cond.all_elim eca hfin (Cond.before_iff.mp (hsets _ (List.mem_of_getElem? (i := 5) rfl))) _ hi
    obtain ⟨q1, -⟩ := and_e q
    obtain ⟨b, eb⟩ := exa_v q1
    exact ⟨b, (elem_in eb eca (idx_at fun y => hj (Or.inl y)) Ar.1).2, exa_at eb q1⟩⟩
  obtain ⟨n, o, h1, h2, h3, _, L, rfl, ⟨rfl, N⟩, hq⟩ := rm0 l s _ hw tables_1 i0 i1 i2 i3 i4 ca cl s.heap s.heap.size (Nat.le_refl _) S_c Ar Ca p e ha hc hk s m _ below hf ((Spec.applies_iff_loose hf).mp happ).1 ⟨rfl, State.Warmed39.refl s, rfl⟩ trivial
  refine ⟨n, _, h1, h2, h3, hpost _ _ _ _ _ _ ⟨Cond.after_iff.mpr rfl, Cond.after_iff.mpr (eq_i res_at (Term.int_eval (1)) rfl), trivial⟩ ⟨hq.1, hq.2.1, (hq.2.2.sift fun y hy => Or.inr (N y hy)).mono (by decide) (by decide)⟩⟩
theorem main_1_1 : Claimed_1_1 := comes_1 fun _ _ _ _ _ _ h hF => ⟨h.1, hF⟩
theorem main_1_2 : Claimed_1_2 := comes_1 fun _ _ _ _ _ _ h hF => ⟨h.2.1, hF⟩
end Jvm.Pilot.@@N@@
namespace Jvm.Pilot.@@N@@
open Jvm Jvm.ClassFile Sem Op Lib Jvm.Free Jvm.Stand Jvm.Pilot.@@N@@.Jvm.D
/-! MADE BY PROGRAM (witnessworld.py) out of the Statement's table words and the real class files: 16 classes; the members and pool entries that the words name. The judged class is class 1, her method 2. -/
namespace start1
open Jvm.ClassFile
def u (s : String) : CpInfo := .utf8 (stringToUtf16 s)
/-- a pool by its gaps: so many unusable entries, then the entry; so many at the end -/
def gap : Nat → List CpInfo → List CpInfo
  | 0, r => r
  | n + 1, r => .unusable :: gap n r
def poolList (es : List (Nat × CpInfo)) (last : Nat) : List CpInfo := es.foldr (fun e r => gap e.1 (e.2 :: r)) (gap last [])
def pool (es : List (Nat × CpInfo)) (last : Nat) : Array CpInfo := ⟨poolList es last⟩
def fileOf (pool : Array CpInfo) (this : Nat) (attrs : Array Attribute := #[]) (ms : Array MethodInfo := #[]) (fl : Nat := 33) (sup : Nat := 0) (ifs : Array Nat := #[]) (fds : Array FieldInfo := #[]) : ClassFile where
  minorVersion := 0
  majorVersion := 65
  constantPool := pool
  accessFlags := fl
  thisClass := this
  superClass := sup
  interfaces := ifs
  fields := fds
  methods := ms
  attributes := attrs
def plain (name : String) (sup : Option ClassId) : Class where
  name := name
  kind := .ordinary
  loader := none
  accessFlags := 33
  super := sup
  interfaces := #[]
  cf := none
  fields := #[]
  methods := #[]
  instanceTypes := #[]
  staticTypes := #[]
  resolved := #[]
  callSites := []
  init := .initialized
  statics := none
  mirror := none

def pool0 : Array CpInfo := pool [(5, u "<init>"), (0, u "()V"), (1, .class_ 10), (1, u "java/lang/Object")] 113

def k0c0 : Code := { maxStack := 0, maxLocals := 1, code := object_method_1_code, exceptionTable := #[], attributes := #[] }
def k0m0 : Method := { name := "<init>", desc := "()V", sig := { parameters := [], returnType := none }, accessFlags := 1, code := some k0c0 }
/-- java/lang/Object -/
def k0 : Class := { plain "java/lang/Object" none with
  accessFlags := 33
  interfaces := #[]
  cf := some (fileOf pool0 8 #[] #[{ accessFlags := 1, nameIndex := 5, descriptorIndex := 6, attributes := #[] }] 33 0 #[] #[])
  fields := #[]
  methods := #[k0m0]
  instanceTypes := #[]
  staticTypes := #[]
  resolved := Array.replicate 124 none
  statics := none }

def pool1 : Array CpInfo := pool [(2, .class_ 4), (1, u "java/lang/Object"), (0, u "<init>"), (0, u "()V"), (0, .class_ 8), (0, u "java/lang/Long"), (0, .long 9223372036854775807), (1, .methodref 12 13), (0, .class_ 14), (0, .nameAndType 15 16), (0, u "com/example/tollwright/tollwright/planner/ContractEqualsPinLaw"), (0, u "positive"), (0, u "(J)J"), (0, .class_ 18), (0, u "com/example/tollwright/tollwright/planner/Contract"), (0, .methodref 17 20), (0, .nameAndType 5 21), (0, u "(JJ)V"), (0, .methodref 7 23), (0, .nameAndType 24 25), (0, u "valueOf"), (0, u "(J)Ljava/lang/Long;"), (0, .methodref 17 27), (0, .nameAndType 28 29), (0, u "equals"), (0, u "(Ljava/lang/Object;)Z"), (3, u "law"), (0, u "(JJJJI)Z")] 2

def k1m0 : Method := { name := "<init>", desc := "()V", sig := { parameters := [], returnType := none }, accessFlags := 1, code := none }
def k1c1 : Code := { maxStack := 4, maxLocals := 4, code := method_2_code, exceptionTable := #[], attributes := #[] }
def k1m1 : Method := { name := "positive", desc := "(J)J", sig := { parameters := [.long], returnType := some .long }, accessFlags := 10, code := some k1c1 }
def k1c2 : Code := { maxStack := 6, maxLocals := 21, code := code, exceptionTable := #[], attributes := #[] }
def k1m2 : Method := { name := "law", desc := "(JJJJI)Z", sig := { parameters := [.long, .long, .long, .long, .int], returnType := some .boolean }, accessFlags := 9, code := some k1c2 }
/-- com/example/tollwright/tollwright/planner/ContractEqualsPinLaw -/
def k1 : Class := { plain "com/example/tollwright/tollwright/planner/ContractEqualsPinLaw" (some 0) with
  accessFlags := 49
  interfaces := #[]
  cf := some (fileOf pool1 12 #[] #[{ accessFlags := 1, nameIndex := 5, descriptorIndex := 6, attributes := #[] }, { accessFlags := 10, nameIndex := 15, descriptorIndex := 16, attributes := #[] }, { accessFlags := 9, nameIndex := 33, descriptorIndex := 34, attributes := #[] }] 49 2 #[] #[])
  fields := #[]
  methods := #[k1m0, k1m1, k1m2]
  instanceTypes := #[]
  staticTypes := #[]
  resolved := Array.replicate 37 none
  statics := none }

def pool2 : Array CpInfo := pool [(1, .methodref 2 3), (0, .class_ 4), (0, .nameAndType 5 6), (0, u "java/lang/Object"), (0, u "<init>"), (0, u "()V"), (10, .fieldref 18 19), (0, .class_ 20), (0, .nameAndType 21 22), (0, u "com/example/tollwright/tollwright/planner/Contract"), (0, u "rate"), (0, u "J"), (0, .fieldref 18 24), (0, .nameAndType 25 22), (0, u "depth"), (21, u "(JJ)V"), (4, u "equals"), (0, u "(Ljava/lang/Object;)Z")] 24

def k2c0 : Code := { maxStack := 4, maxLocals := 5, code := prog_27_method_1_code, exceptionTable := #[], attributes := #[] }
def k2m0 : Method := { name := "<init>", desc := "(JJ)V", sig := { parameters := [.long, .long], returnType := none }, accessFlags := 1, code := some k2c0 }
def k2c1 : Code := { maxStack := 4, maxLocals := 2, code := prog_27_method_4_code, exceptionTable := #[], attributes := #[] }
def k2m1 : Method := { name := "equals", desc := "(Ljava/lang/Object;)Z", sig := { parameters := [(.object "java/lang/Object")], returnType := some .boolean }, accessFlags := 1, code := some k2c1 }
/-- com/example/tollwright/tollwright/planner/Contract -/
def k2 : Class := { plain "com/example/tollwright/tollwright/planner/Contract" (some 0) with
  accessFlags := 49
  interfaces := #[]
  cf := some (fileOf pool2 18 #[] #[{ accessFlags := 1, nameIndex := 5, descriptorIndex := 47, attributes := #[] }, { accessFlags := 1, nameIndex := 52, descriptorIndex := 53, attributes := #[] }] 49 2 #[] #[{ accessFlags := 18, nameIndex := 21, descriptorIndex := 22, attributes := #[] }, { accessFlags := 18, nameIndex := 25, descriptorIndex := 22, attributes := #[] }])
  fields := #[{ name := "rate", type := .long, accessFlags := 18, slot := 0, constantValue := 0 }, { name := "depth", type := .long, accessFlags := 18, slot := 1, constantValue := 0 }]
  methods := #[k2m0, k2m1]
  instanceTypes := #[.long, .long]
  staticTypes := #[]
  resolved := Array.replicate 78 none
  statics := none }

def pool3 : Array CpInfo := pool [(1, .class_ 2), (0, u "java/io/Serializable"), (0, .class_ 4), (0, u "java/lang/Object")] 2

/-- java/io/Serializable -/
def k3 : Class := { plain "java/io/Serializable" (some 0) with
  accessFlags := 1537
  interfaces := #[]
  cf := some (fileOf pool3 1 #[] #[] 1537 3 #[] #[])
  fields := #[]
  methods := #[]
  instanceTypes := #[]
  staticTypes := #[]
  resolved := Array.replicate 7 none
  statics := none }

def pool4 : Array CpInfo := pool [(1, .methodref 2 3), (0, .class_ 4), (0, .nameAndType 5 6), (0, u "java/lang/Object"), (0, u "<init>"), (0, u "()V"), (1, .class_ 10), (1, u "java/lang/Number"), (2, .class_ 14), (0, u "java/io/Serializable"), (0, u "serialVersionUID"), (0, u "J")] 20

def k4c0 : Code := { maxStack := 1, maxLocals := 1, code := jdk_18_method_1_code, exceptionTable := #[], attributes := #[] }
def k4m0 : Method := { name := "<init>", desc := "()V", sig := { parameters := [], returnType := none }, accessFlags := 1, code := some k4c0 }
/-- java/lang/Number -/
def k4 : Class := { plain "java/lang/Number" (some 0) with
  accessFlags := 1057
  interfaces := #[3]
  cf := some (fileOf pool4 8 #[] #[{ accessFlags := 1, nameIndex := 5, descriptorIndex := 6, attributes := #[] }] 1057 2 #[13] #[{ accessFlags := 26, nameIndex := 15, descriptorIndex := 16, attributes := #[] }])
  fields := #[{ name := "serialVersionUID", type := .long, accessFlags := 26, slot := 0, constantValue := 0 }]
  methods := #[k4m0]
  instanceTypes := #[]
  staticTypes := #[.long]
  resolved := Array.replicate 37 none
  statics := none }

def pool5 : Array CpInfo := pool [(1, .class_ 2), (0, u "java/lang/Comparable"), (0, .class_ 4), (0, u "java/lang/Object")] 7

/-- java/lang/Comparable -/
def k5 : Class := { plain "java/lang/Comparable" (some 0) with
  accessFlags := 1537
  interfaces := #[]
  cf := some (fileOf pool5 1 #[] #[] 1537 3 #[] #[])
  fields := #[]
  methods := #[]
  instanceTypes := #[]
  staticTypes := #[]
  resolved := Array.replicate 12 none
  statics := none }

def pool6 : Array CpInfo := pool [(1, .class_ 2), (0, u "java/lang/constant/Constable"), (0, .class_ 4), (0, u "java/lang/Object")] 6

/-- java/lang/constant/Constable -/
def k6 : Class := { plain "java/lang/constant/Constable" (some 0) with
  accessFlags := 1537
  interfaces := #[]
  cf := some (fileOf pool6 1 #[] #[] 1537 3 #[] #[])
  fields := #[]
  methods := #[]
  instanceTypes := #[]
  staticTypes := #[]
  resolved := Array.replicate 11 none
  statics := none }

def pool7 : Array CpInfo := pool [(1, .class_ 2), (0, u "java/lang/constant/ConstantDesc"), (0, .class_ 4), (0, u "java/lang/Object")] 32

/-- java/lang/constant/ConstantDesc -/
def k7 : Class := { plain "java/lang/constant/ConstantDesc" (some 0) with
  accessFlags := 1537
  interfaces := #[]
  cf := some (fileOf pool7 1 #[] #[] 1537 3 #[] #[])
  fields := #[]
  methods := #[]
  instanceTypes := #[]
  staticTypes := #[]
  resolved := Array.replicate 37 none
  statics := none }

def pool8 : Array CpInfo := pool [(1, .class_ 2), (0, u "java/lang/Long"), (55, .nameAndType 59 60), (0, u "<init>"), (0, u "()V"), (24, u "valueOf"), (143, u "(J)Ljava/lang/Long;"), (0, .long 18446744073709551488), (1, .long 127), (1, .fieldref 235 236), (0, .class_ 237), (0, .nameAndType 238 239), (0, u "java/lang/Long$LongCache"), (0, u "cache"), (0, u "[Ljava/lang/Long;"), (0, .methodref 1 241), (0, .nameAndType 59 242), (0, u "(J)V"), (27, .methodref 271 58), (0, .class_ 272), (0, u "java/lang/Number"), (0, .fieldref 1 274), (0, .nameAndType 275 276), (0, u "value"), (0, u "J"), (84, u "TYPE"), (0, u "Ljava/lang/Class;"), (0, .class_ 364), (0, u "java/lang/Comparable"), (0, .class_ 366), (0, u "java/lang/constant/Constable"), (0, .class_ 368), (0, u "java/lang/constant/ConstantDesc"), (0, u "MIN_VALUE"), (1, u "MAX_VALUE"), (4, u "SIZE"), (0, u "I"), (1, u "BYTES"), (1, u "serialVersionUID")] 142

def k8c0 : Code := { maxStack := 4, maxLocals := 3, code := jdk_35_method_24_code, exceptionTable := #[], attributes := #[] }
def k8m0 : Method := { name := "valueOf", desc := "(J)Ljava/lang/Long;", sig := { parameters := [.long], returnType := some (.object "java/lang/Long") }, accessFlags := 9, code := some k8c0 }
def k8c1 : Code := { maxStack := 3, maxLocals := 3, code := jdk_35_method_26_code, exceptionTable := #[], attributes := #[] }
def k8m1 : Method := { name := "<init>", desc := "(J)V", sig := { parameters := [.long], returnType := none }, accessFlags := 1, code := some k8c1 }
/-- java/lang/Long -/
def k8 : Class := { plain "java/lang/Long" (some 4) with
  accessFlags := 49
  interfaces := #[5, 6, 7]
  cf := some (fileOf pool8 1 #[.nestMembers #[235]] #[{ accessFlags := 9, nameIndex := 85, descriptorIndex := 229, attributes := #[] }, { accessFlags := 1, nameIndex := 59, descriptorIndex := 242, attributes := #[] }] 49 271 #[363, 365, 367] #[{ accessFlags := 25, nameIndex := 369, descriptorIndex := 276, attributes := #[] }, { accessFlags := 25, nameIndex := 371, descriptorIndex := 276, attributes := #[] }, { accessFlags := 25, nameIndex := 361, descriptorIndex := 362, attributes := #[] }, { accessFlags := 18, nameIndex := 275, descriptorIndex := 276, attributes := #[] }, { accessFlags := 25, nameIndex := 376, descriptorIndex := 377, attributes := #[] }, { accessFlags := 25, nameIndex := 379, descriptorIndex := 377, attributes := #[] }, { accessFlags := 26, nameIndex := 381, descriptorIndex := 276, attributes := #[] }])
  fields := #[{ name := "MIN_VALUE", type := .long, accessFlags := 25, slot := 0, constantValue := 0 }, { name := "MAX_VALUE", type := .long, accessFlags := 25, slot := 1, constantValue := 0 }, { name := "TYPE", type := (.object "java/lang/Class"), accessFlags := 25, slot := 2, constantValue := 0 }, { name := "value", type := .long, accessFlags := 18, slot := 0, constantValue := 0 }, { name := "SIZE", type := .int, accessFlags := 25, slot := 3, constantValue := 0 }, { name := "BYTES", type := .int, accessFlags := 25, slot := 4, constantValue := 0 }, { name := "serialVersionUID", type := .long, accessFlags := 26, slot := 5, constantValue := 0 }]
  methods := #[k8m0, k8m1]
  instanceTypes := #[.long]
  staticTypes := #[.long, .long, (.object "java/lang/Class"), .int, .int, .long]
  resolved := Array.replicate 524 none
  statics := none }

def pool9 : Array CpInfo := pool [(2, .class_ 4), (1, u "java/lang/Object"), (0, u "<init>"), (0, u "()V"), (0, .class_ 8), (0, u "java/lang/Long"), (7, .class_ 18), (1, u "java/lang/Long$LongCache"), (0, u "$assertionsDisabled"), (0, u "Z"), (8, u "archivedCache"), (0, u "[Ljava/lang/Long;"), (7, u "cache")] 24

def k9m0 : Method := { name := "<init>", desc := "()V", sig := { parameters := [], returnType := none }, accessFlags := 2, code := none }
/-- java/lang/Long$LongCache -/
def k9 : Class := { plain "java/lang/Long$LongCache" (some 0) with
  accessFlags := 48
  interfaces := #[]
  cf := some (fileOf pool9 16 #[.nestHost 7] #[{ accessFlags := 2, nameIndex := 5, descriptorIndex := 6, attributes := #[] }] 48 2 #[] #[{ accessFlags := 24, nameIndex := 38, descriptorIndex := 30, attributes := #[] }, { accessFlags := 8, nameIndex := 29, descriptorIndex := 30, attributes := #[] }, { accessFlags := 4120, nameIndex := 19, descriptorIndex := 20, attributes := #[] }])
  fields := #[{ name := "cache", type := (.array (.object "java/lang/Long")), accessFlags := 24, slot := 0, constantValue := 0 }, { name := "archivedCache", type := (.array (.object "java/lang/Long")), accessFlags := 8, slot := 1, constantValue := 0 }, { name := "$assertionsDisabled", type := .boolean, accessFlags := 4120, slot := 2, constantValue := 0 }]
  methods := #[k9m0]
  instanceTypes := #[]
  staticTypes := #[(.array (.object "java/lang/Long")), (.array (.object "java/lang/Long")), .boolean]
  resolved := Array.replicate 63 none
  statics := some 0 }

def pool10 : Array CpInfo := pool [(1, u "java/lang/Cloneable"), (0, .class_ 1), (0, u "java/lang/Object"), (0, .class_ 3)] 3

/-- java/lang/Cloneable -/
def k10 : Class := { plain "java/lang/Cloneable" (some 0) with
  accessFlags := 1537
  interfaces := #[]
  cf := some (fileOf pool10 2 #[] #[] 1537 4 #[] #[])
  fields := #[]
  methods := #[]
  instanceTypes := #[]
  staticTypes := #[]
  resolved := Array.replicate 8 none
  statics := none }

/-- the primitive byte -/
def k11 : Class := { plain "byte" none with kind := .primitive 'B', accessFlags := 0x411 }
/-- [B -/
def k12 : Class := { plain "[B" (some 0) with kind := .array 11 .byte, interfaces := #[10, 3], accessFlags := 1041 }

/-- the primitive int -/
def k13 : Class := { plain "int" none with kind := .primitive 'I', accessFlags := 0x411 }
/-- [I -/
def k14 : Class := { plain "[I" (some 0) with kind := .array 13 .int, interfaces := #[10, 3], accessFlags := 1041 }

/-- [Ljava/lang/Long; -/
def k15 : Class := { plain "[Ljava/lang/Long;" (some 0) with kind := .array 8 (.object "java/lang/Long"), interfaces := #[10, 3], accessFlags := 1041 }

def heap : Heap := #[{ cls := 9, slots := #[.ref 1, .null, .int 0], vm := .statics 9 },
  { cls := 15, slots := #[.ref 2, .ref 3, .ref 4, .ref 5, .ref 6, .ref 7, .ref 8, .ref 9, .ref 10, .ref 11, .ref 12, .ref 13, .ref 14, .ref 15, .ref 16, .ref 17, .ref 18, .ref 19, .ref 20, .ref 21, .ref 22, .ref 23, .ref 24, .ref 25, .ref 26, .ref 27, .ref 28, .ref 29, .ref 30, .ref 31, .ref 32, .ref 33, .ref 34, .ref 35, .ref 36, .ref 37, .ref 38, .ref 39, .ref 40, .ref 41, .ref 42, .ref 43, .ref 44, .ref 45, .ref 46, .ref 47, .ref 48, .ref 49, .ref 50, .ref 51, .ref 52, .ref 53, .ref 54, .ref 55, .ref 56, .ref 57, .ref 58, .ref 59, .ref 60, .ref 61, .ref 62, .ref 63, .ref 64, .ref 65, .ref 66, .ref 67, .ref 68, .ref 69, .ref 70, .ref 71, .ref 72, .ref 73, .ref 74, .ref 75, .ref 76, .ref 77, .ref 78, .ref 79, .ref 80, .ref 81, .ref 82, .ref 83, .ref 84, .ref 85, .ref 86, .ref 87, .ref 88, .ref 89, .ref 90, .ref 91, .ref 92, .ref 93, .ref 94, .ref 95, .ref 96, .ref 97, .ref 98, .ref 99, .ref 100, .ref 101, .ref 102, .ref 103, .ref 104, .ref 105, .ref 106, .ref 107, .ref 108, .ref 109, .ref 110, .ref 111, .ref 112, .ref 113, .ref 114, .ref 115, .ref 116, .ref 117, .ref 118, .ref 119, .ref 120, .ref 121, .ref 122, .ref 123, .ref 124, .ref 125, .ref 126, .ref 127, .ref 128, .ref 129, .ref 130, .ref 131, .ref 132, .ref 133, .ref 134, .ref 135, .ref 136, .ref 137, .ref 138, .ref 139, .ref 140, .ref 141, .ref 142, .ref 143, .ref 144, .ref 145, .ref 146, .ref 147, .ref 148, .ref 149, .ref 150, .ref 151, .ref 152, .ref 153, .ref 154, .ref 155, .ref 156, .ref 157, .ref 158, .ref 159, .ref 160, .ref 161, .ref 162, .ref 163, .ref 164, .ref 165, .ref 166, .ref 167, .ref 168, .ref 169, .ref 170, .ref 171, .ref 172, .ref 173, .ref 174, .ref 175, .ref 176, .ref 177, .ref 178, .ref 179, .ref 180, .ref 181, .ref 182, .ref 183, .ref 184, .ref 185, .ref 186, .ref 187, .ref 188, .ref 189, .ref 190, .ref 191, .ref 192, .ref 193, .ref 194, .ref 195, .ref 196, .ref 197, .ref 198, .ref 199, .ref 200, .ref 201, .ref 202, .ref 203, .ref 204, .ref 205, .ref 206, .ref 207, .ref 208, .ref 209, .ref 210, .ref 211, .ref 212, .ref 213, .ref 214, .ref 215, .ref 216, .ref 217, .ref 218, .ref 219, .ref 220, .ref 221, .ref 222, .ref 223, .ref 224, .ref 225, .ref 226, .ref 227, .ref 228, .ref 229, .ref 230, .ref 231, .ref 232, .ref 233, .ref 234, .ref 235, .ref 236, .ref 237, .ref 238, .ref 239, .ref 240, .ref 241, .ref 242, .ref 243, .ref 244, .ref 245, .ref 246, .ref 247, .ref 248, .ref 249, .ref 250, .ref 251, .ref 252, .ref 253, .ref 254, .ref 255, .ref 256, .ref 257], vm := .none },
  { cls := 8, slots := #[.long (-128)], vm := .none },
  { cls := 8, slots := #[.long (-127)], vm := .none },
  { cls := 8, slots := #[.long (-126)], vm := .none },
  { cls := 8, slots := #[.long (-125)], vm := .none },
  { cls := 8, slots := #[.long (-124)], vm := .none },
  { cls := 8, slots := #[.long (-123)], vm := .none },
  { cls := 8, slots := #[.long (-122)], vm := .none },
  { cls := 8, slots := #[.long (-121)], vm := .none },
  { cls := 8, slots := #[.long (-120)], vm := .none },
  { cls := 8, slots := #[.long (-119)], vm := .none },
  { cls := 8, slots := #[.long (-118)], vm := .none },
  { cls := 8, slots := #[.long (-117)], vm := .none },
  { cls := 8, slots := #[.long (-116)], vm := .none },
  { cls := 8, slots := #[.long (-115)], vm := .none },
  { cls := 8, slots := #[.long (-114)], vm := .none },
  { cls := 8, slots := #[.long (-113)], vm := .none },
  { cls := 8, slots := #[.long (-112)], vm := .none },
  { cls := 8, slots := #[.long (-111)], vm := .none },
  { cls := 8, slots := #[.long (-110)], vm := .none },
  { cls := 8, slots := #[.long (-109)], vm := .none },
  { cls := 8, slots := #[.long (-108)], vm := .none },
  { cls := 8, slots := #[.long (-107)], vm := .none },
  { cls := 8, slots := #[.long (-106)], vm := .none },
  { cls := 8, slots := #[.long (-105)], vm := .none },
  { cls := 8, slots := #[.long (-104)], vm := .none },
  { cls := 8, slots := #[.long (-103)], vm := .none },
  { cls := 8, slots := #[.long (-102)], vm := .none },
  { cls := 8, slots := #[.long (-101)], vm := .none },
  { cls := 8, slots := #[.long (-100)], vm := .none },
  { cls := 8, slots := #[.long (-99)], vm := .none },
  { cls := 8, slots := #[.long (-98)], vm := .none },
  { cls := 8, slots := #[.long (-97)], vm := .none },
  { cls := 8, slots := #[.long (-96)], vm := .none },
  { cls := 8, slots := #[.long (-95)], vm := .none },
  { cls := 8, slots := #[.long (-94)], vm := .none },
  { cls := 8, slots := #[.long (-93)], vm := .none },
  { cls := 8, slots := #[.long (-92)], vm := .none },
  { cls := 8, slots := #[.long (-91)], vm := .none },
  { cls := 8, slots := #[.long (-90)], vm := .none },
  { cls := 8, slots := #[.long (-89)], vm := .none },
  { cls := 8, slots := #[.long (-88)], vm := .none },
  { cls := 8, slots := #[.long (-87)], vm := .none },
  { cls := 8, slots := #[.long (-86)], vm := .none },
  { cls := 8, slots := #[.long (-85)], vm := .none },
  { cls := 8, slots := #[.long (-84)], vm := .none },
  { cls := 8, slots := #[.long (-83)], vm := .none },
  { cls := 8, slots := #[.long (-82)], vm := .none },
  { cls := 8, slots := #[.long (-81)], vm := .none },
  { cls := 8, slots := #[.long (-80)], vm := .none },
  { cls := 8, slots := #[.long (-79)], vm := .none },
  { cls := 8, slots := #[.long (-78)], vm := .none },
  { cls := 8, slots := #[.long (-77)], vm := .none },
  { cls := 8, slots := #[.long (-76)], vm := .none },
  { cls := 8, slots := #[.long (-75)], vm := .none },
  { cls := 8, slots := #[.long (-74)], vm := .none },
  { cls := 8, slots := #[.long (-73)], vm := .none },
  { cls := 8, slots := #[.long (-72)], vm := .none },
  { cls := 8, slots := #[.long (-71)], vm := .none },
  { cls := 8, slots := #[.long (-70)], vm := .none },
  { cls := 8, slots := #[.long (-69)], vm := .none },
  { cls := 8, slots := #[.long (-68)], vm := .none },
  { cls := 8, slots := #[.long (-67)], vm := .none },
  { cls := 8, slots := #[.long (-66)], vm := .none },
  { cls := 8, slots := #[.long (-65)], vm := .none },
  { cls := 8, slots := #[.long (-64)], vm := .none },
  { cls := 8, slots := #[.long (-63)], vm := .none },
  { cls := 8, slots := #[.long (-62)], vm := .none },
  { cls := 8, slots := #[.long (-61)], vm := .none },
  { cls := 8, slots := #[.long (-60)], vm := .none },
  { cls := 8, slots := #[.long (-59)], vm := .none },
  { cls := 8, slots := #[.long (-58)], vm := .none },
  { cls := 8, slots := #[.long (-57)], vm := .none },
  { cls := 8, slots := #[.long (-56)], vm := .none },
  { cls := 8, slots := #[.long (-55)], vm := .none },
  { cls := 8, slots := #[.long (-54)], vm := .none },
  { cls := 8, slots := #[.long (-53)], vm := .none },
  { cls := 8, slots := #[.long (-52)], vm := .none },
  { cls := 8, slots := #[.long (-51)], vm := .none },
  { cls := 8, slots := #[.long (-50)], vm := .none },
  { cls := 8, slots := #[.long (-49)], vm := .none },
  { cls := 8, slots := #[.long (-48)], vm := .none },
  { cls := 8, slots := #[.long (-47)], vm := .none },
  { cls := 8, slots := #[.long (-46)], vm := .none },
  { cls := 8, slots := #[.long (-45)], vm := .none },
  { cls := 8, slots := #[.long (-44)], vm := .none },
  { cls := 8, slots := #[.long (-43)], vm := .none },
  { cls := 8, slots := #[.long (-42)], vm := .none },
  { cls := 8, slots := #[.long (-41)], vm := .none },
  { cls := 8, slots := #[.long (-40)], vm := .none },
  { cls := 8, slots := #[.long (-39)], vm := .none },
  { cls := 8, slots := #[.long (-38)], vm := .none },
  { cls := 8, slots := #[.long (-37)], vm := .none },
  { cls := 8, slots := #[.long (-36)], vm := .none },
  { cls := 8, slots := #[.long (-35)], vm := .none },
  { cls := 8, slots := #[.long (-34)], vm := .none },
  { cls := 8, slots := #[.long (-33)], vm := .none },
  { cls := 8, slots := #[.long (-32)], vm := .none },
  { cls := 8, slots := #[.long (-31)], vm := .none },
  { cls := 8, slots := #[.long (-30)], vm := .none },
  { cls := 8, slots := #[.long (-29)], vm := .none },
  { cls := 8, slots := #[.long (-28)], vm := .none },
  { cls := 8, slots := #[.long (-27)], vm := .none },
  { cls := 8, slots := #[.long (-26)], vm := .none },
  { cls := 8, slots := #[.long (-25)], vm := .none },
  { cls := 8, slots := #[.long (-24)], vm := .none },
  { cls := 8, slots := #[.long (-23)], vm := .none },
  { cls := 8, slots := #[.long (-22)], vm := .none },
  { cls := 8, slots := #[.long (-21)], vm := .none },
  { cls := 8, slots := #[.long (-20)], vm := .none },
  { cls := 8, slots := #[.long (-19)], vm := .none },
  { cls := 8, slots := #[.long (-18)], vm := .none },
  { cls := 8, slots := #[.long (-17)], vm := .none },
  { cls := 8, slots := #[.long (-16)], vm := .none },
  { cls := 8, slots := #[.long (-15)], vm := .none },
  { cls := 8, slots := #[.long (-14)], vm := .none },
  { cls := 8, slots := #[.long (-13)], vm := .none },
  { cls := 8, slots := #[.long (-12)], vm := .none },
  { cls := 8, slots := #[.long (-11)], vm := .none },
  { cls := 8, slots := #[.long (-10)], vm := .none },
  { cls := 8, slots := #[.long (-9)], vm := .none },
  { cls := 8, slots := #[.long (-8)], vm := .none },
  { cls := 8, slots := #[.long (-7)], vm := .none },
  { cls := 8, slots := #[.long (-6)], vm := .none },
  { cls := 8, slots := #[.long (-5)], vm := .none },
  { cls := 8, slots := #[.long (-4)], vm := .none },
  { cls := 8, slots := #[.long (-3)], vm := .none },
  { cls := 8, slots := #[.long (-2)], vm := .none },
  { cls := 8, slots := #[.long (-1)], vm := .none },
  { cls := 8, slots := #[.long 0], vm := .none },
  { cls := 8, slots := #[.long 1], vm := .none },
  { cls := 8, slots := #[.long 2], vm := .none },
  { cls := 8, slots := #[.long 3], vm := .none },
  { cls := 8, slots := #[.long 4], vm := .none },
  { cls := 8, slots := #[.long 5], vm := .none },
  { cls := 8, slots := #[.long 6], vm := .none },
  { cls := 8, slots := #[.long 7], vm := .none },
  { cls := 8, slots := #[.long 8], vm := .none },
  { cls := 8, slots := #[.long 9], vm := .none },
  { cls := 8, slots := #[.long 10], vm := .none },
  { cls := 8, slots := #[.long 11], vm := .none },
  { cls := 8, slots := #[.long 12], vm := .none },
  { cls := 8, slots := #[.long 13], vm := .none },
  { cls := 8, slots := #[.long 14], vm := .none },
  { cls := 8, slots := #[.long 15], vm := .none },
  { cls := 8, slots := #[.long 16], vm := .none },
  { cls := 8, slots := #[.long 17], vm := .none },
  { cls := 8, slots := #[.long 18], vm := .none },
  { cls := 8, slots := #[.long 19], vm := .none },
  { cls := 8, slots := #[.long 20], vm := .none },
  { cls := 8, slots := #[.long 21], vm := .none },
  { cls := 8, slots := #[.long 22], vm := .none },
  { cls := 8, slots := #[.long 23], vm := .none },
  { cls := 8, slots := #[.long 24], vm := .none },
  { cls := 8, slots := #[.long 25], vm := .none },
  { cls := 8, slots := #[.long 26], vm := .none },
  { cls := 8, slots := #[.long 27], vm := .none },
  { cls := 8, slots := #[.long 28], vm := .none },
  { cls := 8, slots := #[.long 29], vm := .none },
  { cls := 8, slots := #[.long 30], vm := .none },
  { cls := 8, slots := #[.long 31], vm := .none },
  { cls := 8, slots := #[.long 32], vm := .none },
  { cls := 8, slots := #[.long 33], vm := .none },
  { cls := 8, slots := #[.long 34], vm := .none },
  { cls := 8, slots := #[.long 35], vm := .none },
  { cls := 8, slots := #[.long 36], vm := .none },
  { cls := 8, slots := #[.long 37], vm := .none },
  { cls := 8, slots := #[.long 38], vm := .none },
  { cls := 8, slots := #[.long 39], vm := .none },
  { cls := 8, slots := #[.long 40], vm := .none },
  { cls := 8, slots := #[.long 41], vm := .none },
  { cls := 8, slots := #[.long 42], vm := .none },
  { cls := 8, slots := #[.long 43], vm := .none },
  { cls := 8, slots := #[.long 44], vm := .none },
  { cls := 8, slots := #[.long 45], vm := .none },
  { cls := 8, slots := #[.long 46], vm := .none },
  { cls := 8, slots := #[.long 47], vm := .none },
  { cls := 8, slots := #[.long 48], vm := .none },
  { cls := 8, slots := #[.long 49], vm := .none },
  { cls := 8, slots := #[.long 50], vm := .none },
  { cls := 8, slots := #[.long 51], vm := .none },
  { cls := 8, slots := #[.long 52], vm := .none },
  { cls := 8, slots := #[.long 53], vm := .none },
  { cls := 8, slots := #[.long 54], vm := .none },
  { cls := 8, slots := #[.long 55], vm := .none },
  { cls := 8, slots := #[.long 56], vm := .none },
  { cls := 8, slots := #[.long 57], vm := .none },
  { cls := 8, slots := #[.long 58], vm := .none },
  { cls := 8, slots := #[.long 59], vm := .none },
  { cls := 8, slots := #[.long 60], vm := .none },
  { cls := 8, slots := #[.long 61], vm := .none },
  { cls := 8, slots := #[.long 62], vm := .none },
  { cls := 8, slots := #[.long 63], vm := .none },
  { cls := 8, slots := #[.long 64], vm := .none },
  { cls := 8, slots := #[.long 65], vm := .none },
  { cls := 8, slots := #[.long 66], vm := .none },
  { cls := 8, slots := #[.long 67], vm := .none },
  { cls := 8, slots := #[.long 68], vm := .none },
  { cls := 8, slots := #[.long 69], vm := .none },
  { cls := 8, slots := #[.long 70], vm := .none },
  { cls := 8, slots := #[.long 71], vm := .none },
  { cls := 8, slots := #[.long 72], vm := .none },
  { cls := 8, slots := #[.long 73], vm := .none },
  { cls := 8, slots := #[.long 74], vm := .none },
  { cls := 8, slots := #[.long 75], vm := .none },
  { cls := 8, slots := #[.long 76], vm := .none },
  { cls := 8, slots := #[.long 77], vm := .none },
  { cls := 8, slots := #[.long 78], vm := .none },
  { cls := 8, slots := #[.long 79], vm := .none },
  { cls := 8, slots := #[.long 80], vm := .none },
  { cls := 8, slots := #[.long 81], vm := .none },
  { cls := 8, slots := #[.long 82], vm := .none },
  { cls := 8, slots := #[.long 83], vm := .none },
  { cls := 8, slots := #[.long 84], vm := .none },
  { cls := 8, slots := #[.long 85], vm := .none },
  { cls := 8, slots := #[.long 86], vm := .none },
  { cls := 8, slots := #[.long 87], vm := .none },
  { cls := 8, slots := #[.long 88], vm := .none },
  { cls := 8, slots := #[.long 89], vm := .none },
  { cls := 8, slots := #[.long 90], vm := .none },
  { cls := 8, slots := #[.long 91], vm := .none },
  { cls := 8, slots := #[.long 92], vm := .none },
  { cls := 8, slots := #[.long 93], vm := .none },
  { cls := 8, slots := #[.long 94], vm := .none },
  { cls := 8, slots := #[.long 95], vm := .none },
  { cls := 8, slots := #[.long 96], vm := .none },
  { cls := 8, slots := #[.long 97], vm := .none },
  { cls := 8, slots := #[.long 98], vm := .none },
  { cls := 8, slots := #[.long 99], vm := .none },
  { cls := 8, slots := #[.long 100], vm := .none },
  { cls := 8, slots := #[.long 101], vm := .none },
  { cls := 8, slots := #[.long 102], vm := .none },
  { cls := 8, slots := #[.long 103], vm := .none },
  { cls := 8, slots := #[.long 104], vm := .none },
  { cls := 8, slots := #[.long 105], vm := .none },
  { cls := 8, slots := #[.long 106], vm := .none },
  { cls := 8, slots := #[.long 107], vm := .none },
  { cls := 8, slots := #[.long 108], vm := .none },
  { cls := 8, slots := #[.long 109], vm := .none },
  { cls := 8, slots := #[.long 110], vm := .none },
  { cls := 8, slots := #[.long 111], vm := .none },
  { cls := 8, slots := #[.long 112], vm := .none },
  { cls := 8, slots := #[.long 113], vm := .none },
  { cls := 8, slots := #[.long 114], vm := .none },
  { cls := 8, slots := #[.long 115], vm := .none },
  { cls := 8, slots := #[.long 116], vm := .none },
  { cls := 8, slots := #[.long 117], vm := .none },
  { cls := 8, slots := #[.long 118], vm := .none },
  { cls := 8, slots := #[.long 119], vm := .none },
  { cls := 8, slots := #[.long 120], vm := .none },
  { cls := 8, slots := #[.long 121], vm := .none },
  { cls := 8, slots := #[.long 122], vm := .none },
  { cls := 8, slots := #[.long 123], vm := .none },
  { cls := 8, slots := #[.long 124], vm := .none },
  { cls := 8, slots := #[.long 125], vm := .none },
  { cls := 8, slots := #[.long 126], vm := .none },
  { cls := 8, slots := #[.long 127], vm := .none }]
def classes : Array Class := #[k0, k1, k2, k3, k4, k5, k6, k7, k8, k9, k10, k11, k12, k13, k14, k15]
def interned : List (Array UInt16 × Addr) := []
def slotsUsed : Nat := 515
def theMethod : MethodId := ⟨1, 2⟩
def args0 : Array Value := #[.long 5, .long 7, .long 9, .long 11, .int 1]
def aboutOver (below : List Frame) : State where
  vm := { classes := classes, interned := interned.toArray }
  heap := heap
  slotsUsed := slotsUsed
  threads := #[{ frames := .invoking theMethod args0 :: below }]
def below0 : List Frame := [.native { method := ⟨0, 0⟩, args := #[] }]
def about1 : State := aboutOver below0
def p0 : Program := .bare "" "" ""
def e0 : Env := launch0.env 0 0 0
theorem w_frames : about1.frames = Frame.invoking theMethod args0 :: below0 := rfl
set_option maxRecDepth 65536 in
theorem w_args : argsFit about1.vm theMethod args0 = true := by decide +kernel
set_option maxRecDepth 65536 in
theorem w_heap : heapFits about1 = true := by decide +kernel
set_option maxRecDepth 65536 in
theorem w_runnable : about1.curStatus? = some .runnable := by decide +kernel
set_option maxRecDepth 65536 in
theorem w_alone : about1.alone = true := by decide +kernel
set_option maxRecDepth 65536 in
theorem w_named : about1.methodNamed? x = some theMethod := by decide +kernel
set_option maxRecDepth 65536 in
theorem w_hears : about1.hears theMethod below0 = true := by decide +kernel
set_option maxRecDepth 65536 in
theorem w_ripe : about1.ripe theMethod args0 below0 = true := by decide +kernel
theorem w_running : about1.status = .running := rfl
set_option maxRecDepth 65536 in
theorem w_room : about1.hasRoom e0.platform room_1 = true :=
  launch0.hasRoom_least _ room_1 (by decide +kernel) (by decide +kernel) (by decide +kernel) (by decide +kernel) (by decide +kernel) (by decide +kernel)
theorem allAtoms_all (ts : List Jvm.Cond) (a : Array Jvm.Value) (st : Jvm.State) : (allAtoms ts).before a st = ts.all (fun c => c.before a st) := by
  induction ts with
  | nil => rfl
  | cons c t ih =>
    show (Jvm.Cond.and c (allAtoms t)).before a st = _
    rw [Jvm.Cond.before_and, ih, List.all_cons]
def words1 : List Jvm.Cond := Jvm.Cond.code x code maxLocals ret :: tables_1
/-- a 'code' word, met by the world's own term for the bytes: nothing is compared byte by byte -/
theorem code_word {y : MethodName} {bytes : ByteArray} {mx : Nat} {rt : Option FieldType} {a : Array Value} {s : State} {m : MethodId} {meth : Method} {c : Code} (h1 : s.methodNamed? y = some m) (h2 : s.vm.method? m = some meth) (h3 : meth.code = some c) (h4 : c.code = bytes)
    (h5 : (c.maxLocals == mx && c.exceptionTable.isEmpty && decide (c.maxStack ≤ mostOperands) && decide (meth.sig.returnType = rt) && !meth.locks && decide (parseMethodDescriptor y.desc = some meth.sig)) = true) : (Jvm.Cond.code y bytes mx rt).before a s = true := by
  simp only [Bool.and_eq_true, beq_iff_eq, Bool.not_eq_true', decide_eq_true_eq] at h5
  obtain ⟨⟨⟨⟨⟨g1, g2⟩, g3⟩, g4⟩, g5⟩, g6⟩ := h5
  simp [Cond.before, Cond.holds, Cond.value, h1, h2, h3, h4, g1, g2, g3, g4, g5, g6]
def isCode : Jvm.Cond → Bool
  | .code _ _ _ _ => true
  | _ => false
theorem all_split {L : List Jvm.Cond} {P : Jvm.Cond → Bool} (h1 : L.all (fun c => isCode c || P c) = true) (h2 : ∀ c ∈ L.filter isCode, P c = true) : L.all P = true := by
  refine List.all_eq_true.mpr fun c hc => ?_
  have h := List.all_eq_true.mp h1 c hc
  rcases Bool.eq_false_or_eq_true (isCode c) with hi | hi
  · exact h2 c (List.mem_filter.mpr ⟨hc, hi⟩)
  · simpa [hi] using h
set_option maxRecDepth 65536 in
theorem w_c0 : (Jvm.Cond.code x code maxLocals ret).before args0 about1 = true := code_word (m := ⟨1, 2⟩) (meth := k1m2) (c := k1c2) (by decide +kernel) rfl rfl rfl (by decide +kernel)
set_option maxRecDepth 65536 in
theorem w_c1 : (Jvm.Cond.code ({ cls := "com/example/tollwright/tollwright/planner/ContractEqualsPinLaw", name := "positive", desc := "(J)J" } : Jvm.MethodName) method_2_code (4 : Nat) (Option.some Jvm.ClassFile.FieldType.long)).before args0 about1 = true := code_word (m := ⟨1, 1⟩) (meth := k1m1) (c := k1c1) (by decide +kernel) rfl rfl rfl (by decide +kernel)
set_option maxRecDepth 65536 in
theorem w_c2 : (Jvm.Cond.code ({ cls := "com/example/tollwright/tollwright/planner/Contract", name := "<init>", desc := "(JJ)V" } : Jvm.MethodName) prog_27_method_1_code (5 : Nat) (Option.none : Option Jvm.ClassFile.FieldType)).before args0 about1 = true := code_word (m := ⟨2, 0⟩) (meth := k2m0) (c := k2c0) (by decide +kernel) rfl rfl rfl (by decide +kernel)
set_option maxRecDepth 65536 in
theorem w_c3 : (Jvm.Cond.code ({ cls := "java/lang/Object", name := "<init>", desc := "()V" } : Jvm.MethodName) object_method_1_code (1 : Nat) (Option.none : Option Jvm.ClassFile.FieldType)).before args0 about1 = true := code_word (m := ⟨0, 0⟩) (meth := k0m0) (c := k0c0) (by decide +kernel) rfl rfl rfl (by decide +kernel)
set_option maxRecDepth 65536 in
theorem w_c4 : (Jvm.Cond.code ({ cls := "java/lang/Long", name := "valueOf", desc := "(J)Ljava/lang/Long;" } : Jvm.MethodName) jdk_35_method_24_code (3 : Nat) (Option.some (Jvm.ClassFile.FieldType.object "java/lang/Long"))).before args0 about1 = true := code_word (m := ⟨8, 0⟩) (meth := k8m0) (c := k8c0) (by decide +kernel) rfl rfl rfl (by decide +kernel)
set_option maxRecDepth 65536 in
theorem w_c5 : (Jvm.Cond.code ({ cls := "com/example/tollwright/tollwright/planner/Contract", name := "equals", desc := "(Ljava/lang/Object;)Z" } : Jvm.MethodName) prog_27_method_4_code (2 : Nat) (Option.some Jvm.ClassFile.FieldType.boolean)).before args0 about1 = true := code_word (m := ⟨2, 1⟩) (meth := k2m1) (c := k2c1) (by decide +kernel) rfl rfl rfl (by decide +kernel)
set_option maxRecDepth 65536 in
theorem w_c6 : (Jvm.Cond.code ({ cls := "java/lang/Long", name := "<init>", desc := "(J)V" } : Jvm.MethodName) jdk_35_method_26_code (3 : Nat) (Option.none : Option Jvm.ClassFile.FieldType)).before args0 about1 = true := code_word (m := ⟨8, 1⟩) (meth := k8m1) (c := k8c1) (by decide +kernel) rfl rfl rfl (by decide +kernel)
set_option maxRecDepth 65536 in
theorem w_c7 : (Jvm.Cond.code ({ cls := "java/lang/Number", name := "<init>", desc := "()V" } : Jvm.MethodName) jdk_18_method_1_code (1 : Nat) (Option.none : Option Jvm.ClassFile.FieldType)).before args0 about1 = true := code_word (m := ⟨4, 0⟩) (meth := k4m0) (c := k4c0) (by decide +kernel) rfl rfl rfl (by decide +kernel)
def codes1 : List Jvm.Cond := [Jvm.Cond.code x code maxLocals ret, Jvm.Cond.code ({ cls := "com/example/tollwright/tollwright/planner/ContractEqualsPinLaw", name := "positive", desc := "(J)J" } : Jvm.MethodName) method_2_code (4 : Nat) (Option.some Jvm.ClassFile.FieldType.long), Jvm.Cond.code ({ cls := "com/example/tollwright/tollwright/planner/Contract", name := "<init>", desc := "(JJ)V" } : Jvm.MethodName) prog_27_method_1_code (5 : Nat) (Option.none : Option Jvm.ClassFile.FieldType), Jvm.Cond.code ({ cls := "java/lang/Object", name := "<init>", desc := "()V" } : Jvm.MethodName) object_method_1_code (1 : Nat) (Option.none : Option Jvm.ClassFile.FieldType), Jvm.Cond.code ({ cls := "java/lang/Long", name := "valueOf", desc := "(J)Ljava/lang/Long;" } : Jvm.MethodName) jdk_35_method_24_code (3 : Nat) (Option.some (Jvm.ClassFile.FieldType.object "java/lang/Long")), Jvm.Cond.code ({ cls := "com/example/tollwright/tollwright/planner/Contract", name := "equals", desc := "(Ljava/lang/Object;)Z" } : Jvm.MethodName) prog_27_method_4_code (2 : Nat) (Option.some Jvm.ClassFile.FieldType.boolean), Jvm.Cond.code ({ cls := "java/lang/Long", name := "<init>", desc := "(J)V" } : Jvm.MethodName) jdk_35_method_26_code (3 : Nat) (Option.none : Option Jvm.ClassFile.FieldType), Jvm.Cond.code ({ cls := "java/lang/Number", name := "<init>", desc := "()V" } : Jvm.MethodName) jdk_18_method_1_code (1 : Nat) (Option.none : Option Jvm.ClassFile.FieldType)]
set_option maxRecDepth 65536 in
theorem codes_eq : words1.filter isCode = codes1 := rfl
theorem w_codes : ∀ c ∈ words1.filter isCode, c.before args0 about1 = true := by
  rw [codes_eq]
  intro c hc
  simp only [codes1, List.mem_cons, List.not_mem_nil, or_false] at hc
  rcases hc with rfl | rfl | rfl | rfl | rfl | rfl | rfl | rfl
  · exact w_c0
  · exact w_c1
  · exact w_c2
  · exact w_c3
  · exact w_c4
  · exact w_c5
  · exact w_c6
  · exact w_c7
set_option maxRecDepth 65536 in
theorem w_t1 : (words1.take 24).all (fun c => isCode c || c.before args0 about1) = true := by decide +kernel
set_option maxRecDepth 65536 in
theorem w_t2 : ((words1.drop 24).take 24).all (fun c => isCode c || c.before args0 about1) = true := by decide +kernel
set_option maxRecDepth 65536 in
theorem w_t3 : ((words1.drop 24).drop 24).all (fun c => isCode c || c.before args0 about1) = true := by decide +kernel
theorem w_tables : (allAtoms (Jvm.Cond.code x code maxLocals ret :: tables_1)).before args0 about1 = true := by
  rw [allAtoms_all]
  show words1.all (fun c => c.before args0 about1) = true
  refine all_split ?_ w_codes
  rw [← List.take_append_drop 24 words1, List.all_append, w_t1, ← List.take_append_drop 24 (words1.drop 24), List.all_append, w_t2, w_t3]
  rfl
set_option maxRecDepth 65536 in
theorem w_rest : rest_1_c.before args0 about1 = true := by decide +kernel
set_option maxRecDepth 65536 in
theorem w_case : (Jvm.Cond.and given_1 narrow_1).before args0 about1 = true := by decide +kernel
theorem w_applies : (headSpec (Jvm.Cond.code x code maxLocals ret :: tables_1) room_1).applies x e0.platform about1 = true :=
  (Spec.applies_iff w_frames).mpr ⟨w_running, w_runnable, w_alone, w_named, w_hears, w_ripe, w_room, w_tables⟩
theorem atStart : AtStart classFile x code maxLocals ret World_1 tables_1 room_1 Calls_1 rest_1 Pre_1 launch0 p0 e0 about1 theMethod args0 below0 :=
  ⟨lists_1, trivial, launch0.admits_env _ _ _, launch0.least_env, fairChoices_fair.cas, fairChoices_fair.clock, w_frames, w_args, w_heap, w_applies, trivial, w_rest, w_case⟩
end start1
theorem witness_1 : WitnessClaimed_1 := ⟨start1.p0, start1.e0, start1.about1, start1.theMethod, start1.args0, start1.below0, start1.atStart⟩
end Jvm.Pilot.@@N@@
