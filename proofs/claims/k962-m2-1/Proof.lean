import JvmDerived
import JvmDerived.Pilot.@@N@@Statement
import JvmDerived.Pilot.@@N@@Code
set_option linter.unusedVariables false
set_option linter.unusedSimpArgs false
namespace Jvm.RoadKit
open Sem ClassFile Op Lib Jvm.Stand Jvm.Free Jvm.LawKit
section New
variable {p : Program} {l : Launch} {e : Env} {R : Room} {s : State} {m : MethodId} {args : Array Value} {below : List Frame} {meth : Method} {c : Code} {T : State} {locs : List Loc} {cells slots : Nat}
theorem retI (X : Stand p l e R s m args below meth c T locs cells slots) (hx : p.tables.exec = Jvm.exec) {pc : Nat} {Ls : Array Slot} {z : Int32} {rest : List Value} (hret : meth.sig.returnType = some .int) (hd : decode c.code pc = .ok (.ireturn, 1)) {fs : List Frame}
    (hl : ∀ (f : JFrame) (acts : List Action), f.method = m → f.locked = none → f.entered = [] → (doReturn e (T.setTop f) acts (some (.int z))).1 = T.setFrames fs) : Steps p.tables e below (T.setTop (mkF m pc Ls (.int z :: rest))) (T.setFrames fs) :=
  retOut X hx hret rfl (Or.inl ⟨rfl, Or.inl rfl, z, rfl⟩) hd hl
end New
end Jvm.RoadKit
namespace Jvm.Pilot.@@N@@
open Jvm Jvm.ClassFile Sem Op Lib Jvm.Free Jvm.Stand Jvm.LawKit Jvm.RoadKit Bundle Jvm.Pilot.@@N@@.Jvm.D
def own_QI (r : Int32) (Z : State) (h0 : Heap) (n0 : Nat) (v : Option Value) (h : Heap) (L : List Loc) : Prop := v = some (.int r) ∧ Fr n0 L ∧ h = h0
def own_QA (r : Addr) (Z : State) (h0 : Heap) (n0 : Nat) (v : Option Value) (h : Heap) (L : List Loc) : Prop := v = some (.ref r) ∧ Fr n0 L ∧ h = h0
def own_pick (f u t : Addr) (x : Int32) : Addr := if x = (0 : Int32) then f else if x = (1 : Int32) then u else t
def own_QP (Z : State) (p1 : Int32) (f u t : Addr) := own_QA (own_pick f u t p1) Z
def own_r (x : Int32) : Int32 := (x &&& (2147483647 : Int32)) % (3 : Int32)
theorem own_r3 (x : Int32) : own_r x = 0 ∨ own_r x = 1 ∨ own_r x = 2 := by
  have nn : ¬ (x &&& (2147483647 : Int32)) < 0 := fun q => absurd ((Jvm.Free.XT.and_neg32 _ _).mp q).2 (by decide)
  rw [Jvm.Free.XT.negI32] at nn
  have e : (own_r x).toInt = (x &&& (2147483647 : Int32)).toInt.tmod (3 : Int32).toInt := Int32.toInt_mod _ _
  have z3 : (3 : Int32).toInt = 3 := by decide
  rw [z3, Int.tmod_eq_emod_of_nonneg (by omega)] at e
  have c : (own_r x).toInt = 0 ∨ (own_r x).toInt = 1 ∨ (own_r x).toInt = 2 := by omega
  rcases c with c | c | c
  · exact Or.inl (Int32.toInt_inj.mp (c.trans (by decide)))
  · exact Or.inr (Or.inl (Int32.toInt_inj.mp (c.trans (by decide))))
  · exact Or.inr (Or.inr (Int32.toInt_inj.mp (c.trans (by decide))))
theorem own_pick0 (f u t : Addr) : own_pick f u t 0 = f := rfl
theorem own_pick1 (f u t : Addr) : own_pick f u t 1 = u := rfl
theorem own_pick2 (f u t : Addr) : own_pick f u t 2 = t := rfl
theorem own_exa {Z : State} {h : Heap} {f u t : Addr} {K : String} (x : Int32) (Ef : Exa Z h f K) (Eu : Exa Z h u K) (Et : Exa Z h t K) : Exa Z h (own_pick f u t x) K := by
  unfold own_pick
  split
  · exact Ef
  · split
    · exact Eu
    · exact Et
theorem own_ord {args : Array Value} {s : State} {t : Term} {a : Addr} {C n d : String} {k : Int32} (h : (Jvm.Cond.eq (.field t C n d) (.int k)).value args s none s [] = some true) (ht : t.eval args s none [] s = some (.ref a)) : Fld s s.heap a C n d (.int k) := by
  obtain ⟨x, y, h1, h2, k1, k2⟩ := cmp_v (Or.inl h)
  have e2 : y = .int k := by simpa [Term.eval] using h2.symm
  subst e2
  obtain ⟨z, rfl⟩ : ∃ z, x = .int z := k2
  have e3 : z = k := gotT (P := z = k) (by simp [Cond.value, h1, h2]) h
  subst e3
  exact Fld.start ((fld_at ht).symm.trans h1)
def own_op (f u t l r : Addr) : Addr := if l = f then f else if r = f then f else if l = t then r else u
def own_QO (Z : State) (a1 a2 f u t : Addr) := own_QA (own_op f u t a1 a2) Z
def own_rank (f u t a : Addr) : Int32 := if a = f then (0 : Int32) else if a = u then (1 : Int32) else if a = t then (2 : Int32) else (-1 : Int32)
def own_QK (Z : State) (a1 f u t : Addr) := own_QI (own_rank f u t a1) Z
def own_mm (x y : Int32) : Int32 := if y < x then y else x
def own_QM (Z : State) (p1 p2 : Int32) := own_QI (own_mm p1 p2) Z
theorem own_law (f u t : Addr) (fu : f ≠ u) (ft : f ≠ t) (ut : u ≠ t) (a b : Int32) : own_rank f u t (own_op f u t (own_pick f u t (own_r a)) (own_pick f u t (own_r b))) = own_mm (own_r a) (own_r b) := by
  rcases own_r3 a with h | h | h <;> rcases own_r3 b with g | g | g <;> rw [h, g] <;> simp [own_op, own_pick, own_mm, own_rank, fu, ft, ut, Ne.symm fu, Ne.symm ft, Ne.symm ut] <;> decide

theorem d1_0 : decode method_2_code 0 = .ok (.iload_n 0, 1) := by decide +kernel
theorem d1_1 : decode method_2_code 1 = .ok (.ifCond .ne 7, 3) := by decide +kernel
theorem d1_4 : decode method_2_code 4 = .ok (.getstatic 7, 3) := by decide +kernel
theorem d1_7 : decode method_2_code 7 = .ok (.areturn, 1) := by decide +kernel
theorem d1_8 : decode method_2_code 8 = .ok (.iload_n 0, 1) := by decide +kernel
theorem d1_9 : decode method_2_code 9 = .ok (.iconst 1, 1) := by decide +kernel
theorem d1_10 : decode method_2_code 10 = .ok (.if_icmp .ne 7, 3) := by decide +kernel
theorem d1_13 : decode method_2_code 13 = .ok (.getstatic 13, 3) := by decide +kernel
theorem d1_16 : decode method_2_code 16 = .ok (.areturn, 1) := by decide +kernel
theorem d1_17 : decode method_2_code 17 = .ok (.getstatic 16, 3) := by decide +kernel
theorem d1_20 : decode method_2_code 20 = .ok (.areturn, 1) := by decide +kernel
theorem pn_1 : plainName "com/example/bindery/bindery/document/arlington/TruthAndPinLaw" = true := by first | (simp [plainName, overriddenIn]; done) | decide +kernel
theorem ef_1 (m : MethodId) (x0 : Int32) : entryFrame m #[(.int x0)] 1 = mkF m 0 #[.val (.int x0)] [] := by first | (simp [entryFrame, mkF, argsToLocals, Value.category]; done) | rfl
set_option maxRecDepth 65536 in
set_option maxHeartbeats 40000000 in
theorem rmP (l : Launch) (Z : State) (a0 : Array Value) (hw : ∀ d ∈ tables_1, d.before a0 Z = true) (ws : List Jvm.Cond) (p1 : Int32) (f u t : Addr) (h0 : Heap) (n0 : Nat) (Z0 : n0 ≤ h0.size) (S_F : Sta Z h0 "com/example/bindery/bindery/document/arlington/Evaluator$Truth" "FALSE" "Lcom/example/bindery/bindery/document/arlington/Evaluator$Truth;" (.ref f)) (S_U : Sta Z h0 "com/example/bindery/bindery/document/arlington/Evaluator$Truth" "UNKNOWN" "Lcom/example/bindery/bindery/document/arlington/Evaluator$Truth;" (.ref u)) (S_T : Sta Z h0 "com/example/bindery/bindery/document/arlington/Evaluator$Truth" "TRUE" "Lcom/example/bindery/bindery/document/arlington/Evaluator$Truth;" (.ref t)) :
    MetFree l (⟨"com/example/bindery/bindery/document/arlington/TruthAndPinLaw", "truth", "(I)Lcom/example/bindery/bindery/document/arlington/Evaluator$Truth;"⟩ : MethodName) (head1 (Jvm.Cond.code (⟨"com/example/bindery/bindery/document/arlington/TruthAndPinLaw", "truth", "(I)Lcom/example/bindery/bindery/document/arlington/Evaluator$Truth;"⟩ : MethodName) method_2_code 1 (some (.object "com/example/bindery/bindery/document/arlington/Evaluator$Truth")) :: ws) ({ frames := 0, cells := 0, slots := 0, locals := 0 } : Room)) (fun a U => a = #[(.int p1)] ∧ Z.Warmed39 U.vm ∧ U.heap = h0) (fun _ _ _ _ _ => True) (fun _ U o U' => ∃ v L, o = .returned v ∧ own_QP Z p1 f u t h0 n0 v U'.heap L ∧ FrameEnd U o U' L ({ frames := 0, cells := 0, slots := 0, locals := 0 } : Room).cells ({ frames := 0, cells := 0, slots := 0, locals := 0 } : Room).slots) := by
  refine MetFree.of_bodySF (plainFor_of_name pn_1) hisR ?_
  intro p e s m args below meth c s₁ Bd hml0 hP hK
  obtain ⟨rfl, hZ, hh⟩ := hP
  have hx := Bd.exec
  have hby := Bd.bytes
  have hml : c.maxLocals = 1 := hml0
  have hown : s.vm.findClass "com/example/bindery/bindery/document/arlington/TruthAndPinLaw" = some m.cls := findClass_of_methodNamed Bd.named
  have hnm := (name_of_methodNamed Bd.named Bd.method).1
  have X0 : Stand p l e ({ frames := 0, cells := 0, slots := 0, locals := 0 } : Room) s m #[(.int p1)] below meth c s₁ [] 0 0 := Stand.of_body Bd
  have e0 : s₁.heap = h0 := by rw [← hh, Bd.state]; rfl
  have N0 := Fr.nil n0
  have pre0 : ∀ tq, Steps p.tables e below (s₁.setTop (mkF m 0 #[.val (.int p1)] [])) tq → Steps p.tables e below (s₁.setTop (entryFrame m #[(.int p1)] 1)) tq := fun tq k => castTop (ef_1 m p1) k
  have k1 : ∀ tq, Steps p.tables e below (s₁.setTop (mkF m 1 #[.val (.int p1)] [(.int p1)])) tq → Steps p.tables e below (s₁.setTop (entryFrame m #[(.int p1)] 1)) tq := by
    intro tq kt
    refine pre0 tq ?_
    show Steps p.tables e below (s₁.setTop (mkF m 0 #[.val (.int p1)] [])) _
    refine XS.iloadN X0.here hx rfl (hb hby d1_0) rfl ?_
    exact kt
  by_cases hc2 : p1 = (0 : Int32)
  · obtain ⟨T3, X3, e3, st3⟩ := getS2 X0 hx hZ hown (host := "") (Or.inl (hw _ (List.mem_of_getElem? (i := 5) rfl))) Via.refl e0 S_F (g := (mkF m 4 #[.val (.int p1)] [])) rfl (hb hby d1_4)
    obtain ⟨fs, hr, hrun, hended, hW, hsame⟩ := X3.leave (v := some (.ref f)) (fun h => by rw [Bd.returns] at h; cases h)
    refine ⟨_, _, k1 _ ?_, hrun, hended, _, _, rfl, ?_, ⟨_, rfl⟩, hW, hsame.mono (by decide) (by decide)⟩
    · show Steps p.tables e below (s₁.setTop (mkF m 1 #[.val (.int p1)] [(.int p1)])) _
      refine XS.ifNo X0.here hx rfl (hb hby d1_1) rfl ((if0 _ _).trans (teq hc2).2) ?_
      show Steps p.tables e below (s₁.setTop (mkF m 4 #[.val (.int p1)] [])) _
      refine st3 _ ?_
      show Steps p.tables e below (T3.setTop (mkF m 7 #[.val (.int p1)] [(.ref f)])) _
      exact retOut X3 hx Bd.returns rfl (Or.inr (Or.inr (Or.inr (Or.inr ⟨rfl, rfl, rfl⟩)))) (hb hby d1_7) hr
    · show own_QP Z p1 f u t h0 n0 _ T3.heap _
      rw [e3]
      exact ⟨congrArg (fun z => some (Value.ref z)) (show f = own_pick f u t p1 from by unfold own_pick; rw [if_pos hc2]), N0, rfl⟩
  · have k4 : ∀ tq, Steps p.tables e below (s₁.setTop (mkF m 10 #[.val (.int p1)] [(.int (1 : Int32)), (.int p1)])) tq → Steps p.tables e below (s₁.setTop (entryFrame m #[(.int p1)] 1)) tq := by
      intro tq kt
      refine k1 tq ?_
      show Steps p.tables e below (s₁.setTop (mkF m 1 #[.val (.int p1)] [(.int p1)])) _
      refine XS.ifYes X0.here hx rfl (pc0 := 1) (pc' := 8) rfl (hb hby d1_1) rfl ((if0 _ _).trans (feq hc2).2) (by decide) (by decide) ?_
      show Steps p.tables e below (s₁.setTop (mkF m 8 #[.val (.int p1)] [])) _
      refine XS.iloadN X0.here hx rfl (hb hby d1_8) rfl ?_
      show Steps p.tables e below (s₁.setTop (mkF m 9 #[.val (.int p1)] [(.int p1)])) _
      refine XS.iconst X0.here hx rfl (hb hby d1_9) ?_
      exact kt
    by_cases hc5 : p1 = (1 : Int32)
    · obtain ⟨T6, X6, e6, st6⟩ := getS2 X0 hx hZ hown (host := "") (Or.inl (hw _ (List.mem_of_getElem? (i := 23) rfl))) Via.refl e0 S_U (g := (mkF m 13 #[.val (.int p1)] [])) rfl (hb hby d1_13)
      obtain ⟨fs, hr, hrun, hended, hW, hsame⟩ := X6.leave (v := some (.ref u)) (fun h => by rw [Bd.returns] at h; cases h)
      refine ⟨_, _, k4 _ ?_, hrun, hended, _, _, rfl, ?_, ⟨_, rfl⟩, hW, hsame.mono (by decide) (by decide)⟩
      · show Steps p.tables e below (s₁.setTop (mkF m 10 #[.val (.int p1)] [(.int (1 : Int32)), (.int p1)])) _
        refine XS.icmpNo X0.here hx rfl (hb hby d1_10) rfl (teq hc5).2 ?_
        show Steps p.tables e below (s₁.setTop (mkF m 13 #[.val (.int p1)] [])) _
        refine st6 _ ?_
        show Steps p.tables e below (T6.setTop (mkF m 16 #[.val (.int p1)] [(.ref u)])) _
        exact retOut X6 hx Bd.returns rfl (Or.inr (Or.inr (Or.inr (Or.inr ⟨rfl, rfl, rfl⟩)))) (hb hby d1_16) hr
      · show own_QP Z p1 f u t h0 n0 _ T6.heap _
        rw [e6]
        exact ⟨congrArg (fun z => some (Value.ref z)) (show u = own_pick f u t p1 from by unfold own_pick; rw [if_neg hc2]; rw [if_pos hc5]), N0, rfl⟩
    · obtain ⟨T7, X7, e7, st7⟩ := getS2 X0 hx hZ hown (host := "") (Or.inl (hw _ (List.mem_of_getElem? (i := 21) rfl))) Via.refl e0 S_T (g := (mkF m 17 #[.val (.int p1)] [])) rfl (hb hby d1_17)
      obtain ⟨fs, hr, hrun, hended, hW, hsame⟩ := X7.leave (v := some (.ref t)) (fun h => by rw [Bd.returns] at h; cases h)
      refine ⟨_, _, k4 _ ?_, hrun, hended, _, _, rfl, ?_, ⟨_, rfl⟩, hW, hsame.mono (by decide) (by decide)⟩
      · show Steps p.tables e below (s₁.setTop (mkF m 10 #[.val (.int p1)] [(.int (1 : Int32)), (.int p1)])) _
        refine XS.icmpYes X0.here hx rfl (pc0 := 10) (pc' := 17) rfl (hb hby d1_10) rfl (feq hc5).2 (by decide) (by decide) ?_
        show Steps p.tables e below (s₁.setTop (mkF m 17 #[.val (.int p1)] [])) _
        refine st7 _ ?_
        show Steps p.tables e below (T7.setTop (mkF m 20 #[.val (.int p1)] [(.ref t)])) _
        exact retOut X7 hx Bd.returns rfl (Or.inr (Or.inr (Or.inr (Or.inr ⟨rfl, rfl, rfl⟩)))) (hb hby d1_20) hr
      · show own_QP Z p1 f u t h0 n0 _ T7.heap _
        rw [e7]
        exact ⟨congrArg (fun z => some (Value.ref z)) (show t = own_pick f u t p1 from by unfold own_pick; rw [if_neg hc2]; rw [if_neg hc5]), N0, rfl⟩
theorem d2_0 : decode prog_81_method_6_code 0 = .ok (.aload_n 0, 1) := by decide +kernel
theorem d2_1 : decode prog_81_method_6_code 1 = .ok (.getstatic 7, 3) := by decide +kernel
theorem d2_4 : decode prog_81_method_6_code 4 = .ok (.if_acmp .eq 10, 3) := by decide +kernel
theorem d2_7 : decode prog_81_method_6_code 7 = .ok (.aload_n 1, 1) := by decide +kernel
theorem d2_8 : decode prog_81_method_6_code 8 = .ok (.getstatic 7, 3) := by decide +kernel
theorem d2_11 : decode prog_81_method_6_code 11 = .ok (.if_acmp .ne 9, 3) := by decide +kernel
theorem d2_14 : decode prog_81_method_6_code 14 = .ok (.getstatic 7, 3) := by decide +kernel
theorem d2_17 : decode prog_81_method_6_code 17 = .ok (.goto 17, 3) := by decide +kernel
theorem d2_20 : decode prog_81_method_6_code 20 = .ok (.aload_n 0, 1) := by decide +kernel
theorem d2_21 : decode prog_81_method_6_code 21 = .ok (.getstatic 3, 3) := by decide +kernel
theorem d2_24 : decode prog_81_method_6_code 24 = .ok (.if_acmp .ne 7, 3) := by decide +kernel
theorem d2_27 : decode prog_81_method_6_code 27 = .ok (.aload_n 1, 1) := by decide +kernel
theorem d2_28 : decode prog_81_method_6_code 28 = .ok (.goto 6, 3) := by decide +kernel
theorem d2_31 : decode prog_81_method_6_code 31 = .ok (.getstatic 10, 3) := by decide +kernel
theorem d2_34 : decode prog_81_method_6_code 34 = .ok (.areturn, 1) := by decide +kernel
theorem pn_2 : plainName "com/example/bindery/bindery/document/arlington/Evaluator$Truth" = true := by first | (simp [plainName, overriddenIn]; done) | decide +kernel
theorem ef_2 (m : MethodId) (x0 : Addr) (x1 : Addr) : entryFrame m #[(.ref x0), (.ref x1)] 2 = mkF m 0 #[.val (.ref x0), .val (.ref x1)] [] := by first | (simp [entryFrame, mkF, argsToLocals, Value.category]; done) | rfl
set_option maxRecDepth 65536 in
set_option maxHeartbeats 40000000 in
theorem rmO (l : Launch) (Z : State) (a0 : Array Value) (hw : ∀ d ∈ tables_1, d.before a0 Z = true) (ws : List Jvm.Cond) (a1 a2 f u t : Addr) (h0 : Heap) (n0 : Nat) (Z0 : n0 ≤ h0.size) (S_F : Sta Z h0 "com/example/bindery/bindery/document/arlington/Evaluator$Truth" "FALSE" "Lcom/example/bindery/bindery/document/arlington/Evaluator$Truth;" (.ref f)) (S_U : Sta Z h0 "com/example/bindery/bindery/document/arlington/Evaluator$Truth" "UNKNOWN" "Lcom/example/bindery/bindery/document/arlington/Evaluator$Truth;" (.ref u)) (S_T : Sta Z h0 "com/example/bindery/bindery/document/arlington/Evaluator$Truth" "TRUE" "Lcom/example/bindery/bindery/document/arlington/Evaluator$Truth;" (.ref t)) :
    MetFree l (⟨"com/example/bindery/bindery/document/arlington/Evaluator$Truth", "and", "(Lcom/example/bindery/bindery/document/arlington/Evaluator$Truth;)Lcom/example/bindery/bindery/document/arlington/Evaluator$Truth;"⟩ : MethodName) (head1 (Jvm.Cond.code (⟨"com/example/bindery/bindery/document/arlington/Evaluator$Truth", "and", "(Lcom/example/bindery/bindery/document/arlington/Evaluator$Truth;)Lcom/example/bindery/bindery/document/arlington/Evaluator$Truth;"⟩ : MethodName) prog_81_method_6_code 2 (some (.object "com/example/bindery/bindery/document/arlington/Evaluator$Truth")) :: ws) ({ frames := 0, cells := 0, slots := 0, locals := 0 } : Room)) (fun a U => a = #[(.ref a1), (.ref a2)] ∧ Z.Warmed39 U.vm ∧ U.heap = h0) (fun _ _ _ _ _ => True) (fun _ U o U' => ∃ v L, o = .returned v ∧ own_QO Z a1 a2 f u t h0 n0 v U'.heap L ∧ FrameEnd U o U' L ({ frames := 0, cells := 0, slots := 0, locals := 0 } : Room).cells ({ frames := 0, cells := 0, slots := 0, locals := 0 } : Room).slots) := by
  refine MetFree.of_bodySF (plainFor_of_name pn_2) hisR ?_
  intro p e s m args below meth c s₁ Bd hml0 hP hK
  obtain ⟨rfl, hZ, hh⟩ := hP
  have hx := Bd.exec
  have hby := Bd.bytes
  have hml : c.maxLocals = 2 := hml0
  have hown : s.vm.findClass "com/example/bindery/bindery/document/arlington/Evaluator$Truth" = some m.cls := findClass_of_methodNamed Bd.named
  have hnm := (name_of_methodNamed Bd.named Bd.method).1
  have X0 : Stand p l e ({ frames := 0, cells := 0, slots := 0, locals := 0 } : Room) s m #[(.ref a1), (.ref a2)] below meth c s₁ [] 0 0 := Stand.of_body Bd
  have e0 : s₁.heap = h0 := by rw [← hh, Bd.state]; rfl
  have N0 := Fr.nil n0
  have pre0 : ∀ tq, Steps p.tables e below (s₁.setTop (mkF m 0 #[.val (.ref a1), .val (.ref a2)] [])) tq → Steps p.tables e below (s₁.setTop (entryFrame m #[(.ref a1), (.ref a2)] 2)) tq := fun tq k => castTop (ef_2 m a1 a2) k
  obtain ⟨T1, X1, e1, st1⟩ := getS2 X0 hx hZ hown (host := "") (Or.inl (hw _ (List.mem_of_getElem? (i := 13) rfl))) Via.refl e0 S_F (g := (mkF m 1 #[.val (.ref a1), .val (.ref a2)] [(.ref a1)])) rfl (hb hby d2_1)
  have k2 : ∀ tq, Steps p.tables e below (T1.setTop (mkF m 4 #[.val (.ref a1), .val (.ref a2)] [(.ref f), (.ref a1)])) tq → Steps p.tables e below (s₁.setTop (entryFrame m #[(.ref a1), (.ref a2)] 2)) tq := by
    intro tq kt
    refine pre0 tq ?_
    show Steps p.tables e below (s₁.setTop (mkF m 0 #[.val (.ref a1), .val (.ref a2)] [])) _
    refine XS.aloadN X0.here hx rfl (hb hby d2_0) rfl rfl ?_
    show Steps p.tables e below (s₁.setTop (mkF m 1 #[.val (.ref a1), .val (.ref a2)] [(.ref a1)])) _
    refine st1 _ ?_
    exact kt
  by_cases hc3 : a1 = f
  · obtain ⟨T4, X4, e4, st4⟩ := getS2 X1 hx hZ hown (host := "") (Or.inl (hw _ (List.mem_of_getElem? (i := 13) rfl))) Via.refl e1 S_F (g := (mkF m 14 #[.val (.ref a1), .val (.ref a2)] [])) rfl (hb hby d2_14)
    obtain ⟨fs, hr, hrun, hended, hW, hsame⟩ := X4.leave (v := some (.ref f)) (fun h => by rw [Bd.returns] at h; cases h)
    refine ⟨_, _, k2 _ ?_, hrun, hended, _, _, rfl, ?_, ⟨_, rfl⟩, hW, hsame.mono (by decide) (by decide)⟩
    · show Steps p.tables e below (T1.setTop (mkF m 4 #[.val (.ref a1), .val (.ref a2)] [(.ref f), (.ref a1)])) _
      refine Jvm.RoadKit.acmp (g := (mkF m 4 #[.val (.ref a1), .val (.ref a2)] [(.ref f), (.ref a1)])) X1 hx rfl rfl rfl (pc0 := 4) (pc' := 14) (same := true) rfl (hb hby d2_4) rfl (decide_eq_true (congrArg Value.ref hc3)) (by decide) (by decide) ?_
      show Steps p.tables e below (T1.setTop (mkF m 14 #[.val (.ref a1), .val (.ref a2)] [])) _
      refine st4 _ ?_
      show Steps p.tables e below (T4.setTop (mkF m 17 #[.val (.ref a1), .val (.ref a2)] [(.ref f)])) _
      refine XS.goto X4.here hx rfl (pc0 := 17) (pc' := 34) rfl (hb hby d2_17) (by decide) (by decide) ?_
      show Steps p.tables e below (T4.setTop (mkF m 34 #[.val (.ref a1), .val (.ref a2)] [(.ref f)])) _
      exact retOut X4 hx Bd.returns rfl (Or.inr (Or.inr (Or.inr (Or.inr ⟨rfl, rfl, rfl⟩)))) (hb hby d2_34) hr
    · show own_QO Z a1 a2 f u t h0 n0 _ T4.heap _
      rw [e4]
      exact ⟨congrArg (fun z => some (Value.ref z)) (show f = own_op f u t a1 a2 from by unfold own_op; rw [if_pos hc3]), N0, rfl⟩
  · obtain ⟨T5, X5, e5, st5⟩ := getS2 X1 hx hZ hown (host := "") (Or.inl (hw _ (List.mem_of_getElem? (i := 13) rfl))) Via.refl e1 S_F (g := (mkF m 8 #[.val (.ref a1), .val (.ref a2)] [(.ref a2)])) rfl (hb hby d2_8)
    have k6 : ∀ tq, Steps p.tables e below (T5.setTop (mkF m 11 #[.val (.ref a1), .val (.ref a2)] [(.ref f), (.ref a2)])) tq → Steps p.tables e below (s₁.setTop (entryFrame m #[(.ref a1), (.ref a2)] 2)) tq := by
      intro tq kt
      refine k2 tq ?_
      show Steps p.tables e below (T1.setTop (mkF m 4 #[.val (.ref a1), .val (.ref a2)] [(.ref f), (.ref a1)])) _
      refine Jvm.RoadKit.acmp (g := (mkF m 4 #[.val (.ref a1), .val (.ref a2)] [(.ref f), (.ref a1)])) X1 hx rfl rfl rfl (pc0 := 4) (pc' := 7) (same := false) rfl (hb hby d2_4) rfl (decide_eq_false fun q => hc3 (Value.ref.inj q)) (by decide) (by decide) ?_
      show Steps p.tables e below (T1.setTop (mkF m 7 #[.val (.ref a1), .val (.ref a2)] [])) _
      refine XS.aloadN X1.here hx rfl (hb hby d2_7) rfl rfl ?_
      show Steps p.tables e below (T1.setTop (mkF m 8 #[.val (.ref a1), .val (.ref a2)] [(.ref a2)])) _
      refine st5 _ ?_
      exact kt
    by_cases hc7 : a2 = f
    · obtain ⟨T8, X8, e8, st8⟩ := getS2 X5 hx hZ hown (host := "") (Or.inl (hw _ (List.mem_of_getElem? (i := 13) rfl))) Via.refl e5 S_F (g := (mkF m 14 #[.val (.ref a1), .val (.ref a2)] [])) rfl (hb hby d2_14)
      obtain ⟨fs, hr, hrun, hended, hW, hsame⟩ := X8.leave (v := some (.ref f)) (fun h => by rw [Bd.returns] at h; cases h)
      refine ⟨_, _, k6 _ ?_, hrun, hended, _, _, rfl, ?_, ⟨_, rfl⟩, hW, hsame.mono (by decide) (by decide)⟩
      · show Steps p.tables e below (T5.setTop (mkF m 11 #[.val (.ref a1), .val (.ref a2)] [(.ref f), (.ref a2)])) _
        refine Jvm.RoadKit.acmp (g := (mkF m 11 #[.val (.ref a1), .val (.ref a2)] [(.ref f), (.ref a2)])) X5 hx rfl rfl rfl (pc0 := 11) (pc' := 14) (same := true) rfl (hb hby d2_11) rfl (decide_eq_true (congrArg Value.ref hc7)) (by decide) (by decide) ?_
        show Steps p.tables e below (T5.setTop (mkF m 14 #[.val (.ref a1), .val (.ref a2)] [])) _
        refine st8 _ ?_
        show Steps p.tables e below (T8.setTop (mkF m 17 #[.val (.ref a1), .val (.ref a2)] [(.ref f)])) _
        refine XS.goto X8.here hx rfl (pc0 := 17) (pc' := 34) rfl (hb hby d2_17) (by decide) (by decide) ?_
        show Steps p.tables e below (T8.setTop (mkF m 34 #[.val (.ref a1), .val (.ref a2)] [(.ref f)])) _
        exact retOut X8 hx Bd.returns rfl (Or.inr (Or.inr (Or.inr (Or.inr ⟨rfl, rfl, rfl⟩)))) (hb hby d2_34) hr
      · show own_QO Z a1 a2 f u t h0 n0 _ T8.heap _
        rw [e8]
        exact ⟨congrArg (fun z => some (Value.ref z)) (show f = own_op f u t a1 a2 from by unfold own_op; rw [if_neg hc3]; rw [if_pos hc7]), N0, rfl⟩
    · obtain ⟨T9, X9, e9, st9⟩ := getS2 X5 hx hZ hown (host := "") (Or.inl (hw _ (List.mem_of_getElem? (i := 25) rfl))) Via.refl e5 S_T (g := (mkF m 21 #[.val (.ref a1), .val (.ref a2)] [(.ref a1)])) rfl (hb hby d2_21)
      have k10 : ∀ tq, Steps p.tables e below (T9.setTop (mkF m 24 #[.val (.ref a1), .val (.ref a2)] [(.ref t), (.ref a1)])) tq → Steps p.tables e below (s₁.setTop (entryFrame m #[(.ref a1), (.ref a2)] 2)) tq := by
        intro tq kt
        refine k6 tq ?_
        show Steps p.tables e below (T5.setTop (mkF m 11 #[.val (.ref a1), .val (.ref a2)] [(.ref f), (.ref a2)])) _
        refine Jvm.RoadKit.acmp (g := (mkF m 11 #[.val (.ref a1), .val (.ref a2)] [(.ref f), (.ref a2)])) X5 hx rfl rfl rfl (pc0 := 11) (pc' := 20) (same := false) rfl (hb hby d2_11) rfl (decide_eq_false fun q => hc7 (Value.ref.inj q)) (by decide) (by decide) ?_
        show Steps p.tables e below (T5.setTop (mkF m 20 #[.val (.ref a1), .val (.ref a2)] [])) _
        refine XS.aloadN X5.here hx rfl (hb hby d2_20) rfl rfl ?_
        show Steps p.tables e below (T5.setTop (mkF m 21 #[.val (.ref a1), .val (.ref a2)] [(.ref a1)])) _
        refine st9 _ ?_
        exact kt
      by_cases hc11 : a1 = t
      · obtain ⟨fs, hr, hrun, hended, hW, hsame⟩ := X9.leave (v := some (.ref a2)) (fun h => by rw [Bd.returns] at h; cases h)
        refine ⟨_, _, k10 _ ?_, hrun, hended, _, _, rfl, ?_, ⟨_, rfl⟩, hW, hsame.mono (by decide) (by decide)⟩
        · show Steps p.tables e below (T9.setTop (mkF m 24 #[.val (.ref a1), .val (.ref a2)] [(.ref t), (.ref a1)])) _
          refine Jvm.RoadKit.acmp (g := (mkF m 24 #[.val (.ref a1), .val (.ref a2)] [(.ref t), (.ref a1)])) X9 hx rfl rfl rfl (pc0 := 24) (pc' := 27) (same := true) rfl (hb hby d2_24) rfl (decide_eq_true (congrArg Value.ref hc11)) (by decide) (by decide) ?_
          show Steps p.tables e below (T9.setTop (mkF m 27 #[.val (.ref a1), .val (.ref a2)] [])) _
          refine XS.aloadN X9.here hx rfl (hb hby d2_27) rfl rfl ?_
          show Steps p.tables e below (T9.setTop (mkF m 28 #[.val (.ref a1), .val (.ref a2)] [(.ref a2)])) _
          refine XS.goto X9.here hx rfl (pc0 := 28) (pc' := 34) rfl (hb hby d2_28) (by decide) (by decide) ?_
          show Steps p.tables e below (T9.setTop (mkF m 34 #[.val (.ref a1), .val (.ref a2)] [(.ref a2)])) _
          exact retOut X9 hx Bd.returns rfl (Or.inr (Or.inr (Or.inr (Or.inr ⟨rfl, rfl, rfl⟩)))) (hb hby d2_34) hr
        · show own_QO Z a1 a2 f u t h0 n0 _ T9.heap _
          rw [e9]
          exact ⟨congrArg (fun z => some (Value.ref z)) (show a2 = own_op f u t a1 a2 from by unfold own_op; rw [if_neg hc3]; rw [if_neg hc7]; rw [if_pos hc11]), N0, rfl⟩
      · obtain ⟨T12, X12, e12, st12⟩ := getS2 X9 hx hZ hown (host := "") (Or.inl (hw _ (List.mem_of_getElem? (i := 26) rfl))) Via.refl e9 S_U (g := (mkF m 31 #[.val (.ref a1), .val (.ref a2)] [])) rfl (hb hby d2_31)
        obtain ⟨fs, hr, hrun, hended, hW, hsame⟩ := X12.leave (v := some (.ref u)) (fun h => by rw [Bd.returns] at h; cases h)
        refine ⟨_, _, k10 _ ?_, hrun, hended, _, _, rfl, ?_, ⟨_, rfl⟩, hW, hsame.mono (by decide) (by decide)⟩
        · show Steps p.tables e below (T9.setTop (mkF m 24 #[.val (.ref a1), .val (.ref a2)] [(.ref t), (.ref a1)])) _
          refine Jvm.RoadKit.acmp (g := (mkF m 24 #[.val (.ref a1), .val (.ref a2)] [(.ref t), (.ref a1)])) X9 hx rfl rfl rfl (pc0 := 24) (pc' := 31) (same := false) rfl (hb hby d2_24) rfl (decide_eq_false fun q => hc11 (Value.ref.inj q)) (by decide) (by decide) ?_
          show Steps p.tables e below (T9.setTop (mkF m 31 #[.val (.ref a1), .val (.ref a2)] [])) _
          refine st12 _ ?_
          show Steps p.tables e below (T12.setTop (mkF m 34 #[.val (.ref a1), .val (.ref a2)] [(.ref u)])) _
          exact retOut X12 hx Bd.returns rfl (Or.inr (Or.inr (Or.inr (Or.inr ⟨rfl, rfl, rfl⟩)))) (hb hby d2_34) hr
        · show own_QO Z a1 a2 f u t h0 n0 _ T12.heap _
          rw [e12]
          exact ⟨congrArg (fun z => some (Value.ref z)) (show u = own_op f u t a1 a2 from by unfold own_op; rw [if_neg hc3]; rw [if_neg hc7]; rw [if_neg hc11]), N0, rfl⟩
theorem d4_0 : decode jdk_29_method_69_code 0 = .ok (.iload_n 0, 1) := by decide +kernel
theorem d4_1 : decode jdk_29_method_69_code 1 = .ok (.iload_n 1, 1) := by decide +kernel
theorem d4_2 : decode jdk_29_method_69_code 2 = .ok (.if_icmp .gt 7, 3) := by decide +kernel
theorem d4_5 : decode jdk_29_method_69_code 5 = .ok (.iload_n 0, 1) := by decide +kernel
theorem d4_6 : decode jdk_29_method_69_code 6 = .ok (.goto 4, 3) := by decide +kernel
theorem d4_9 : decode jdk_29_method_69_code 9 = .ok (.iload_n 1, 1) := by decide +kernel
theorem d4_10 : decode jdk_29_method_69_code 10 = .ok (.ireturn, 1) := by decide +kernel
theorem ef_4 (m : MethodId) (x0 : Int32) (x1 : Int32) : entryFrame m #[(.int x0), (.int x1)] 2 = mkF m 0 #[.val (.int x0), .val (.int x1)] [] := by first | (simp [entryFrame, mkF, argsToLocals, Value.category]; done) | rfl
set_option maxRecDepth 65536 in
set_option maxHeartbeats 40000000 in
theorem rmM (l : Launch) (Z : State) (a0 : Array Value) (hw : ∀ d ∈ tables_1, d.before a0 Z = true) (ws : List Jvm.Cond) (p1 p2 : Int32) (h0 : Heap) (n0 : Nat) (Z0 : n0 ≤ h0.size) :
    MetFree l (⟨"java/lang/Math", "min", "(II)I"⟩ : MethodName) (head1 (Jvm.Cond.code (⟨"java/lang/Math", "min", "(II)I"⟩ : MethodName) jdk_29_method_69_code 2 (some .int) :: ws) ({ frames := 0, cells := 0, slots := 0, locals := 0 } : Room)) (fun a U => a = #[(.int p1), (.int p2)] ∧ Z.Warmed39 U.vm ∧ U.heap = h0) (fun _ _ _ _ _ => True) (fun _ U o U' => ∃ v L, o = .returned v ∧ own_QM Z p1 p2 h0 n0 v U'.heap L ∧ FrameEnd U o U' L ({ frames := 0, cells := 0, slots := 0, locals := 0 } : Room).cells ({ frames := 0, cells := 0, slots := 0, locals := 0 } : Room).slots) := by
  refine MetFree.of_bodySF (Jvm.Free.JP.mathPlain rfl (by decide +kernel)) hisR ?_
  intro p e s m args below meth c s₁ Bd hml0 hP hK
  obtain ⟨rfl, hZ, hh⟩ := hP
  have hx := Bd.exec
  have hby := Bd.bytes
  have hml : c.maxLocals = 2 := hml0
  have hown : s.vm.findClass "java/lang/Math" = some m.cls := findClass_of_methodNamed Bd.named
  have hnm := (name_of_methodNamed Bd.named Bd.method).1
  have X0 : Stand p l e ({ frames := 0, cells := 0, slots := 0, locals := 0 } : Room) s m #[(.int p1), (.int p2)] below meth c s₁ [] 0 0 := Stand.of_body Bd
  have e0 : s₁.heap = h0 := by rw [← hh, Bd.state]; rfl
  have N0 := Fr.nil n0
  have pre0 : ∀ tq, Steps p.tables e below (s₁.setTop (mkF m 0 #[.val (.int p1), .val (.int p2)] [])) tq → Steps p.tables e below (s₁.setTop (entryFrame m #[(.int p1), (.int p2)] 2)) tq := fun tq k => castTop (ef_4 m p1 p2) k
  have k1 : ∀ tq, Steps p.tables e below (s₁.setTop (mkF m 2 #[.val (.int p1), .val (.int p2)] [(.int p2), (.int p1)])) tq → Steps p.tables e below (s₁.setTop (entryFrame m #[(.int p1), (.int p2)] 2)) tq := by
    intro tq kt
    refine pre0 tq ?_
    show Steps p.tables e below (s₁.setTop (mkF m 0 #[.val (.int p1), .val (.int p2)] [])) _
    refine XS.iloadN X0.here hx rfl (hb hby d4_0) rfl ?_
    show Steps p.tables e below (s₁.setTop (mkF m 1 #[.val (.int p1), .val (.int p2)] [(.int p1)])) _
    refine XS.iloadN X0.here hx rfl (hb hby d4_1) rfl ?_
    exact kt
  by_cases hc2 : p2 < p1
  · obtain ⟨fs, hr, hrun, hended, hW, hsame⟩ := X0.leave (v := some (.int p2)) (fun h => by rw [Bd.returns] at h; cases h)
    refine ⟨_, _, k1 _ ?_, hrun, hended, _, _, rfl, ?_, ⟨_, rfl⟩, hW, hsame.mono (by decide) (by decide)⟩
    · show Steps p.tables e below (s₁.setTop (mkF m 2 #[.val (.int p1), .val (.int p2)] [(.int p2), (.int p1)])) _
      refine XS.icmpYes X0.here hx rfl (pc0 := 2) (pc' := 9) rfl (hb hby d4_2) rfl (tlt hc2).2.2.1 (by decide) (by decide) ?_
      show Steps p.tables e below (s₁.setTop (mkF m 9 #[.val (.int p1), .val (.int p2)] [])) _
      refine XS.iloadN X0.here hx rfl (hb hby d4_9) rfl ?_
      show Steps p.tables e below (s₁.setTop (mkF m 10 #[.val (.int p1), .val (.int p2)] [(.int p2)])) _
      exact retI X0 hx Bd.returns (hb hby d4_10) hr
    · show own_QM Z p1 p2 h0 n0 _ s₁.heap _
      rw [e0]
      exact ⟨congrArg (fun z => some (Value.int z)) (show p2 = own_mm p1 p2 from by unfold own_mm; rw [if_pos hc2]), N0, rfl⟩
  · obtain ⟨fs, hr, hrun, hended, hW, hsame⟩ := X0.leave (v := some (.int p1)) (fun h => by rw [Bd.returns] at h; cases h)
    refine ⟨_, _, k1 _ ?_, hrun, hended, _, _, rfl, ?_, ⟨_, rfl⟩, hW, hsame.mono (by decide) (by decide)⟩
    · show Steps p.tables e below (s₁.setTop (mkF m 2 #[.val (.int p1), .val (.int p2)] [(.int p2), (.int p1)])) _
      refine XS.icmpNo X0.here hx rfl (hb hby d4_2) rfl (flt hc2).2.2.1 ?_
      show Steps p.tables e below (s₁.setTop (mkF m 5 #[.val (.int p1), .val (.int p2)] [])) _
      refine XS.iloadN X0.here hx rfl (hb hby d4_5) rfl ?_
      show Steps p.tables e below (s₁.setTop (mkF m 6 #[.val (.int p1), .val (.int p2)] [(.int p1)])) _
      refine XS.goto X0.here hx rfl (pc0 := 6) (pc' := 10) rfl (hb hby d4_6) (by decide) (by decide) ?_
      show Steps p.tables e below (s₁.setTop (mkF m 10 #[.val (.int p1), .val (.int p2)] [(.int p1)])) _
      exact retI X0 hx Bd.returns (hb hby d4_10) hr
    · show own_QM Z p1 p2 h0 n0 _ s₁.heap _
      rw [e0]
      exact ⟨congrArg (fun z => some (Value.int z)) (show p1 = own_mm p1 p2 from by unfold own_mm; rw [if_neg hc2]), N0, rfl⟩
theorem d3_0 : decode method_3_code 0 = .ok (.aload_n 0, 1) := by decide +kernel
theorem d3_1 : decode method_3_code 1 = .ok (.getstatic 7, 3) := by decide +kernel
theorem d3_4 : decode method_3_code 4 = .ok (.if_acmp .ne 5, 3) := by decide +kernel
theorem d3_7 : decode method_3_code 7 = .ok (.iconst 0, 1) := by decide +kernel
theorem d3_8 : decode method_3_code 8 = .ok (.ireturn, 1) := by decide +kernel
theorem d3_9 : decode method_3_code 9 = .ok (.aload_n 0, 1) := by decide +kernel
theorem d3_10 : decode method_3_code 10 = .ok (.getstatic 13, 3) := by decide +kernel
theorem d3_13 : decode method_3_code 13 = .ok (.if_acmp .ne 5, 3) := by decide +kernel
theorem d3_16 : decode method_3_code 16 = .ok (.iconst 1, 1) := by decide +kernel
theorem d3_17 : decode method_3_code 17 = .ok (.ireturn, 1) := by decide +kernel
theorem d3_18 : decode method_3_code 18 = .ok (.aload_n 0, 1) := by decide +kernel
theorem d3_19 : decode method_3_code 19 = .ok (.getstatic 16, 3) := by decide +kernel
theorem d3_22 : decode method_3_code 22 = .ok (.if_acmp .ne 5, 3) := by decide +kernel
theorem d3_25 : decode method_3_code 25 = .ok (.iconst 2, 1) := by decide +kernel
theorem d3_26 : decode method_3_code 26 = .ok (.ireturn, 1) := by decide +kernel
theorem d3_27 : decode method_3_code 27 = .ok (.iconst (-1), 1) := by decide +kernel
theorem d3_28 : decode method_3_code 28 = .ok (.ireturn, 1) := by decide +kernel
theorem pn_3 : plainName "com/example/bindery/bindery/document/arlington/TruthAndPinLaw" = true := by first | (simp [plainName, overriddenIn]; done) | decide +kernel
theorem ef_3 (m : MethodId) (x0 : Addr) : entryFrame m #[(.ref x0)] 1 = mkF m 0 #[.val (.ref x0)] [] := by first | (simp [entryFrame, mkF, argsToLocals, Value.category]; done) | rfl
set_option maxRecDepth 65536 in
set_option maxHeartbeats 40000000 in
theorem rmK (l : Launch) (Z : State) (a0 : Array Value) (hw : ∀ d ∈ tables_1, d.before a0 Z = true) (ws : List Jvm.Cond) (a1 f u t : Addr) (h0 : Heap) (n0 : Nat) (Z0 : n0 ≤ h0.size) (S_F : Sta Z h0 "com/example/bindery/bindery/document/arlington/Evaluator$Truth" "FALSE" "Lcom/example/bindery/bindery/document/arlington/Evaluator$Truth;" (.ref f)) (S_U : Sta Z h0 "com/example/bindery/bindery/document/arlington/Evaluator$Truth" "UNKNOWN" "Lcom/example/bindery/bindery/document/arlington/Evaluator$Truth;" (.ref u)) (S_T : Sta Z h0 "com/example/bindery/bindery/document/arlington/Evaluator$Truth" "TRUE" "Lcom/example/bindery/bindery/document/arlington/Evaluator$Truth;" (.ref t)) :
    MetFree l (⟨"com/example/bindery/bindery/document/arlington/TruthAndPinLaw", "rank", "(Lcom/example/bindery/bindery/document/arlington/Evaluator$Truth;)I"⟩ : MethodName) (head1 (Jvm.Cond.code (⟨"com/example/bindery/bindery/document/arlington/TruthAndPinLaw", "rank", "(Lcom/example/bindery/bindery/document/arlington/Evaluator$Truth;)I"⟩ : MethodName) method_3_code 1 (some .int) :: ws) ({ frames := 0, cells := 0, slots := 0, locals := 0 } : Room)) (fun a U => a = #[(.ref a1)] ∧ Z.Warmed39 U.vm ∧ U.heap = h0) (fun _ _ _ _ _ => True) (fun _ U o U' => ∃ v L, o = .returned v ∧ own_QK Z a1 f u t h0 n0 v U'.heap L ∧ FrameEnd U o U' L ({ frames := 0, cells := 0, slots := 0, locals := 0 } : Room).cells ({ frames := 0, cells := 0, slots := 0, locals := 0 } : Room).slots) := by
  refine MetFree.of_bodySF (plainFor_of_name pn_3) hisR ?_
  intro p e s m args below meth c s₁ Bd hml0 hP hK
  obtain ⟨rfl, hZ, hh⟩ := hP
  have hx := Bd.exec
  have hby := Bd.bytes
  have hml : c.maxLocals = 1 := hml0
  have hown : s.vm.findClass "com/example/bindery/bindery/document/arlington/TruthAndPinLaw" = some m.cls := findClass_of_methodNamed Bd.named
  have hnm := (name_of_methodNamed Bd.named Bd.method).1
  have X0 : Stand p l e ({ frames := 0, cells := 0, slots := 0, locals := 0 } : Room) s m #[(.ref a1)] below meth c s₁ [] 0 0 := Stand.of_body Bd
  have e0 : s₁.heap = h0 := by rw [← hh, Bd.state]; rfl
  have N0 := Fr.nil n0
  have pre0 : ∀ tq, Steps p.tables e below (s₁.setTop (mkF m 0 #[.val (.ref a1)] [])) tq → Steps p.tables e below (s₁.setTop (entryFrame m #[(.ref a1)] 1)) tq := fun tq k => castTop (ef_3 m a1) k
  obtain ⟨T1, X1, e1, st1⟩ := getS2 X0 hx hZ hown (host := "") (Or.inl (hw _ (List.mem_of_getElem? (i := 5) rfl))) Via.refl e0 S_F (g := (mkF m 1 #[.val (.ref a1)] [(.ref a1)])) rfl (hb hby d3_1)
  have k2 : ∀ tq, Steps p.tables e below (T1.setTop (mkF m 4 #[.val (.ref a1)] [(.ref f), (.ref a1)])) tq → Steps p.tables e below (s₁.setTop (entryFrame m #[(.ref a1)] 1)) tq := by
    intro tq kt
    refine pre0 tq ?_
    show Steps p.tables e below (s₁.setTop (mkF m 0 #[.val (.ref a1)] [])) _
    refine XS.aloadN X0.here hx rfl (hb hby d3_0) rfl rfl ?_
    show Steps p.tables e below (s₁.setTop (mkF m 1 #[.val (.ref a1)] [(.ref a1)])) _
    refine st1 _ ?_
    exact kt
  by_cases hc3 : a1 = f
  · obtain ⟨fs, hr, hrun, hended, hW, hsame⟩ := X1.leave (v := some (.int (0 : Int32))) (fun h => by rw [Bd.returns] at h; cases h)
    refine ⟨_, _, k2 _ ?_, hrun, hended, _, _, rfl, ?_, ⟨_, rfl⟩, hW, hsame.mono (by decide) (by decide)⟩
    · show Steps p.tables e below (T1.setTop (mkF m 4 #[.val (.ref a1)] [(.ref f), (.ref a1)])) _
      refine Jvm.RoadKit.acmp (g := (mkF m 4 #[.val (.ref a1)] [(.ref f), (.ref a1)])) X1 hx rfl rfl rfl (pc0 := 4) (pc' := 7) (same := true) rfl (hb hby d3_4) rfl (decide_eq_true (congrArg Value.ref hc3)) (by decide) (by decide) ?_
      show Steps p.tables e below (T1.setTop (mkF m 7 #[.val (.ref a1)] [])) _
      refine XS.iconst X1.here hx rfl (hb hby d3_7) ?_
      show Steps p.tables e below (T1.setTop (mkF m 8 #[.val (.ref a1)] [(.int (0 : Int32))])) _
      exact retI X1 hx Bd.returns (hb hby d3_8) hr
    · show own_QK Z a1 f u t h0 n0 _ T1.heap _
      rw [e1]
      exact ⟨congrArg (fun z => some (Value.int z)) (show (0 : Int32) = own_rank f u t a1 from by unfold own_rank; rw [if_pos hc3]), N0, rfl⟩
  · obtain ⟨T4, X4, e4, st4⟩ := getS2 X1 hx hZ hown (host := "") (Or.inl (hw _ (List.mem_of_getElem? (i := 23) rfl))) Via.refl e1 S_U (g := (mkF m 10 #[.val (.ref a1)] [(.ref a1)])) rfl (hb hby d3_10)
    have k5 : ∀ tq, Steps p.tables e below (T4.setTop (mkF m 13 #[.val (.ref a1)] [(.ref u), (.ref a1)])) tq → Steps p.tables e below (s₁.setTop (entryFrame m #[(.ref a1)] 1)) tq := by
      intro tq kt
      refine k2 tq ?_
      show Steps p.tables e below (T1.setTop (mkF m 4 #[.val (.ref a1)] [(.ref f), (.ref a1)])) _
      refine Jvm.RoadKit.acmp (g := (mkF m 4 #[.val (.ref a1)] [(.ref f), (.ref a1)])) X1 hx rfl rfl rfl (pc0 := 4) (pc' := 9) (same := false) rfl (hb hby d3_4) rfl (decide_eq_false fun q => hc3 (Value.ref.inj q)) (by decide) (by decide) ?_
      show Steps p.tables e below (T1.setTop (mkF m 9 #[.val (.ref a1)] [])) _
      refine XS.aloadN X1.here hx rfl (hb hby d3_9) rfl rfl ?_
      show Steps p.tables e below (T1.setTop (mkF m 10 #[.val (.ref a1)] [(.ref a1)])) _
      refine st4 _ ?_
      exact kt
    by_cases hc6 : a1 = u
    · obtain ⟨fs, hr, hrun, hended, hW, hsame⟩ := X4.leave (v := some (.int (1 : Int32))) (fun h => by rw [Bd.returns] at h; cases h)
      refine ⟨_, _, k5 _ ?_, hrun, hended, _, _, rfl, ?_, ⟨_, rfl⟩, hW, hsame.mono (by decide) (by decide)⟩
      · show Steps p.tables e below (T4.setTop (mkF m 13 #[.val (.ref a1)] [(.ref u), (.ref a1)])) _
        refine Jvm.RoadKit.acmp (g := (mkF m 13 #[.val (.ref a1)] [(.ref u), (.ref a1)])) X4 hx rfl rfl rfl (pc0 := 13) (pc' := 16) (same := true) rfl (hb hby d3_13) rfl (decide_eq_true (congrArg Value.ref hc6)) (by decide) (by decide) ?_
        show Steps p.tables e below (T4.setTop (mkF m 16 #[.val (.ref a1)] [])) _
        refine XS.iconst X4.here hx rfl (hb hby d3_16) ?_
        show Steps p.tables e below (T4.setTop (mkF m 17 #[.val (.ref a1)] [(.int (1 : Int32))])) _
        exact retI X4 hx Bd.returns (hb hby d3_17) hr
      · show own_QK Z a1 f u t h0 n0 _ T4.heap _
        rw [e4]
        exact ⟨congrArg (fun z => some (Value.int z)) (show (1 : Int32) = own_rank f u t a1 from by unfold own_rank; rw [if_neg hc3]; rw [if_pos hc6]), N0, rfl⟩
    · obtain ⟨T7, X7, e7, st7⟩ := getS2 X4 hx hZ hown (host := "") (Or.inl (hw _ (List.mem_of_getElem? (i := 21) rfl))) Via.refl e4 S_T (g := (mkF m 19 #[.val (.ref a1)] [(.ref a1)])) rfl (hb hby d3_19)
      have k8 : ∀ tq, Steps p.tables e below (T7.setTop (mkF m 22 #[.val (.ref a1)] [(.ref t), (.ref a1)])) tq → Steps p.tables e below (s₁.setTop (entryFrame m #[(.ref a1)] 1)) tq := by
        intro tq kt
        refine k5 tq ?_
        show Steps p.tables e below (T4.setTop (mkF m 13 #[.val (.ref a1)] [(.ref u), (.ref a1)])) _
        refine Jvm.RoadKit.acmp (g := (mkF m 13 #[.val (.ref a1)] [(.ref u), (.ref a1)])) X4 hx rfl rfl rfl (pc0 := 13) (pc' := 18) (same := false) rfl (hb hby d3_13) rfl (decide_eq_false fun q => hc6 (Value.ref.inj q)) (by decide) (by decide) ?_
        show Steps p.tables e below (T4.setTop (mkF m 18 #[.val (.ref a1)] [])) _
        refine XS.aloadN X4.here hx rfl (hb hby d3_18) rfl rfl ?_
        show Steps p.tables e below (T4.setTop (mkF m 19 #[.val (.ref a1)] [(.ref a1)])) _
        refine st7 _ ?_
        exact kt
      by_cases hc9 : a1 = t
      · obtain ⟨fs, hr, hrun, hended, hW, hsame⟩ := X7.leave (v := some (.int (2 : Int32))) (fun h => by rw [Bd.returns] at h; cases h)
        refine ⟨_, _, k8 _ ?_, hrun, hended, _, _, rfl, ?_, ⟨_, rfl⟩, hW, hsame.mono (by decide) (by decide)⟩
        · show Steps p.tables e below (T7.setTop (mkF m 22 #[.val (.ref a1)] [(.ref t), (.ref a1)])) _
          refine Jvm.RoadKit.acmp (g := (mkF m 22 #[.val (.ref a1)] [(.ref t), (.ref a1)])) X7 hx rfl rfl rfl (pc0 := 22) (pc' := 25) (same := true) rfl (hb hby d3_22) rfl (decide_eq_true (congrArg Value.ref hc9)) (by decide) (by decide) ?_
          show Steps p.tables e below (T7.setTop (mkF m 25 #[.val (.ref a1)] [])) _
          refine XS.iconst X7.here hx rfl (hb hby d3_25) ?_
          show Steps p.tables e below (T7.setTop (mkF m 26 #[.val (.ref a1)] [(.int (2 : Int32))])) _
          exact retI X7 hx Bd.returns (hb hby d3_26) hr
        · show own_QK Z a1 f u t h0 n0 _ T7.heap _
          rw [e7]
          exact ⟨congrArg (fun z => some (Value.int z)) (show (2 : Int32) = own_rank f u t a1 from by unfold own_rank; rw [if_neg hc3]; rw [if_neg hc6]; rw [if_pos hc9]), N0, rfl⟩
      · obtain ⟨fs, hr, hrun, hended, hW, hsame⟩ := X7.leave (v := some (.int (-1 : Int32))) (fun h => by rw [Bd.returns] at h; cases h)
        refine ⟨_, _, k8 _ ?_, hrun, hended, _, _, rfl, ?_, ⟨_, rfl⟩, hW, hsame.mono (by decide) (by decide)⟩
        · show Steps p.tables e below (T7.setTop (mkF m 22 #[.val (.ref a1)] [(.ref t), (.ref a1)])) _
          refine Jvm.RoadKit.acmp (g := (mkF m 22 #[.val (.ref a1)] [(.ref t), (.ref a1)])) X7 hx rfl rfl rfl (pc0 := 22) (pc' := 27) (same := false) rfl (hb hby d3_22) rfl (decide_eq_false fun q => hc9 (Value.ref.inj q)) (by decide) (by decide) ?_
          show Steps p.tables e below (T7.setTop (mkF m 27 #[.val (.ref a1)] [])) _
          refine XS.iconst X7.here hx rfl (hb hby d3_27) ?_
          show Steps p.tables e below (T7.setTop (mkF m 28 #[.val (.ref a1)] [(.int (-1 : Int32))])) _
          exact retI X7 hx Bd.returns (hb hby d3_28) hr
        · show own_QK Z a1 f u t h0 n0 _ T7.heap _
          rw [e7]
          exact ⟨congrArg (fun z => some (Value.int z)) (show (-1 : Int32) = own_rank f u t a1 from by unfold own_rank; rw [if_neg hc3]; rw [if_neg hc6]; rw [if_neg hc9]), N0, rfl⟩
theorem pd_0 : parseMethodDescriptor "(I)Lcom/example/bindery/bindery/document/arlington/Evaluator$Truth;" = some ⟨[.int], some (.object "com/example/bindery/bindery/document/arlington/Evaluator$Truth")⟩ := by decide +kernel
theorem pd_1 : parseMethodDescriptor "(Lcom/example/bindery/bindery/document/arlington/Evaluator$Truth;)Lcom/example/bindery/bindery/document/arlington/Evaluator$Truth;" = some ⟨[(.object "com/example/bindery/bindery/document/arlington/Evaluator$Truth")], some (.object "com/example/bindery/bindery/document/arlington/Evaluator$Truth")⟩ := by decide +kernel
theorem pd_2 : parseMethodDescriptor "(Lcom/example/bindery/bindery/document/arlington/Evaluator$Truth;)I" = some ⟨[(.object "com/example/bindery/bindery/document/arlington/Evaluator$Truth")], some .int⟩ := by decide +kernel
theorem pd_3 : parseMethodDescriptor "(II)I" = some ⟨[.int, .int], some .int⟩ := by decide +kernel
def own_Q0 (Z : State) (x y : Int32) (f u t : Addr) (h0 : Heap) (n0 : Nat) (v : Option Value) (h : Heap) (L : List Loc) : Prop := v = some (.int 1) ∧ Fr n0 L
theorem pn_0 : plainName "com/example/bindery/bindery/document/arlington/TruthAndPinLaw" = true := by first | (simp [plainName, overriddenIn]; done) | decide +kernel
theorem ef_0 (m : MethodId) (x0 : Int32) (x1 : Int32) : entryFrame m #[(.int x0), (.int x1)] maxLocals = mkF m 0 #[.val (.int x0), .val (.int x1), .unset, .unset, .unset, .unset, .unset] [] := by first | (simp [entryFrame, mkF, argsToLocals, Value.category, maxLocals]; done) | rfl
set_option maxRecDepth 65536 in
set_option maxHeartbeats 40000000 in
theorem rm0 (l : Launch) (Z : State) (a0 : Array Value) (hw : ∀ d ∈ tables_1, d.before a0 Z = true) (ws : List Jvm.Cond) (ix iy : Int32) (f u t : Addr) (h0 : Heap) (n0 : Nat) (Z0 : n0 ≤ h0.size) (S_F : Sta Z h0 "com/example/bindery/bindery/document/arlington/Evaluator$Truth" "FALSE" "Lcom/example/bindery/bindery/document/arlington/Evaluator$Truth;" (.ref f)) (S_U : Sta Z h0 "com/example/bindery/bindery/document/arlington/Evaluator$Truth" "UNKNOWN" "Lcom/example/bindery/bindery/document/arlington/Evaluator$Truth;" (.ref u)) (S_T : Sta Z h0 "com/example/bindery/bindery/document/arlington/Evaluator$Truth" "TRUE" "Lcom/example/bindery/bindery/document/arlington/Evaluator$Truth;" (.ref t)) (E_f : Exa Z h0 f "com/example/bindery/bindery/document/arlington/Evaluator$Truth") (E_u : Exa Z h0 u "com/example/bindery/bindery/document/arlington/Evaluator$Truth") (E_t : Exa Z h0 t "com/example/bindery/bindery/document/arlington/Evaluator$Truth") (fu : f ≠ u) (ft : f ≠ t) (ut : u ≠ t) :
    MetFree l x (head1 (Jvm.Cond.code x code maxLocals ret :: ws) room_1) (fun a U => a = #[(.int ix), (.int iy)] ∧ Z.Warmed39 U.vm ∧ U.heap = h0) (fun _ _ _ _ _ => True) (fun _ U o U' => ∃ v L, o = .returned v ∧ own_Q0 Z ix iy f u t h0 n0 v U'.heap L ∧ FrameEnd U o U' L room_1.cells room_1.slots) := by
  refine MetFree.of_bodySF (plainFor_of_name pn_0) hisR ?_
  intro p e s m args below meth c s₁ Bd hml0 hP hK
  obtain ⟨rfl, hZ, hh⟩ := hP
  have hx := Bd.exec
  have hby := Bd.bytes
  have hml : c.maxLocals = 7 := hml0
  have hown : s.vm.findClass "com/example/bindery/bindery/document/arlington/TruthAndPinLaw" = some m.cls := findClass_of_methodNamed Bd.named
  have hnm := (name_of_methodNamed Bd.named Bd.method).1
  have X0 : Stand p l e room_1 s m #[(.int ix), (.int iy)] below meth c s₁ [] 0 0 := Stand.of_body Bd
  have e0 : s₁.heap = h0 := by rw [← hh, Bd.state]; rfl
  have N0 := Fr.nil n0
  have pre0 : ∀ tq, Steps p.tables e below (s₁.setTop (mkF m 0 #[.val (.int ix), .val (.int iy), .unset, .unset, .unset, .unset, .unset] [])) tq → Steps p.tables e below (s₁.setTop (entryFrame m #[(.int ix), (.int iy)] maxLocals)) tq := fun tq k => castTop (ef_0 m ix iy) k
  have E_l : Exa Z h0 (own_pick f u t ((ix &&& (2147483647 : Int32)) % (3 : Int32))) "com/example/bindery/bindery/document/arlington/Evaluator$Truth" := own_exa _ E_f E_u E_t
  obtain ⟨_, _, ⟨T1, L1, k1, n1⟩, -, X1, ⟨Lc1, hQ1, l1, y1, z1⟩, st1⟩ := Jvm.LawKit.callS X0 hx (y := (⟨"com/example/bindery/bindery/document/arlington/TruthAndPinLaw", "truth", "(I)Lcom/example/bindery/bindery/document/arlington/Evaluator$Truth;"⟩ : MethodName)) hown (mvT hZ (hw _ (List.mem_of_getElem? (i := 1) rfl))) (mvT hZ (hw _ (List.mem_of_getElem? (i := 2) rfl))) (mvT hZ (hw _ (List.mem_of_getElem? (i := 3) rfl))) (mvT hZ (hw _ (List.mem_of_getElem? (i := 4) rfl))) (by decide) (backOf (W := 0) (rmP l Z a0 hw [] ((ix &&& (2147483647 : Int32)) % (3 : Int32)) f u t h0 n0 Z0 S_F S_U S_T) hZ (hw _ (List.mem_of_getElem? (i := 4) rfl)) (hw _ (List.mem_of_getElem? (i := 3) rfl)) (by decide) (by decide)) (g := (mkF m 15 #[.val (.int ix), .val (.int iy), .val (.int ((ix &&& (2147483647 : Int32)) % (3 : Int32))), .val (.int ((iy &&& (2147483647 : Int32)) % (3 : Int32))), .unset, .unset, .unset] [(.int ((ix &&& (2147483647 : Int32)) % (3 : Int32)))])) rfl (by rw [hml]; rfl) (argsL := [(.int ((ix &&& (2147483647 : Int32)) % (3 : Int32)))]) (rest := []) (lenOf pd_0 rfl) rfl (by show 2 * 0 + _ ≤ _; exact Nat.le_of_eq rfl) (hb hby at_15) (fun _ _ => ⟨rfl, e0, (by decide : 0 + 0 ≤ _), (by decide : 0 + 0 ≤ _)⟩)
  dsimp only [Pt.U, Pt.locs, Pt.cells, Pt.slots] at X1 l1 y1 z1 st1 hQ1
  subst l1 y1 z1
  obtain ⟨rfl, N1q, e1⟩ := hQ1
  have N1 := Fr.app N0 N1q
  obtain ⟨_, _, ⟨T2, L2, k2, n2⟩, -, X2, ⟨Lc2, hQ2, l2, y2, z2⟩, st2⟩ := Jvm.LawKit.callS X1 hx (y := (⟨"com/example/bindery/bindery/document/arlington/TruthAndPinLaw", "truth", "(I)Lcom/example/bindery/bindery/document/arlington/Evaluator$Truth;"⟩ : MethodName)) hown (mvT hZ (hw _ (List.mem_of_getElem? (i := 1) rfl))) (mvT hZ (hw _ (List.mem_of_getElem? (i := 2) rfl))) (mvT hZ (hw _ (List.mem_of_getElem? (i := 3) rfl))) (mvT hZ (hw _ (List.mem_of_getElem? (i := 4) rfl))) (by decide) (backOf (W := 0) (rmP l Z a0 hw [] ((iy &&& (2147483647 : Int32)) % (3 : Int32)) f u t h0 n0 Z0 S_F S_U S_T) hZ (hw _ (List.mem_of_getElem? (i := 4) rfl)) (hw _ (List.mem_of_getElem? (i := 3) rfl)) (by decide) (by decide)) (g := (mkF m 21 #[.val (.int ix), .val (.int iy), .val (.int ((ix &&& (2147483647 : Int32)) % (3 : Int32))), .val (.int ((iy &&& (2147483647 : Int32)) % (3 : Int32))), .val (.ref (own_pick f u t ((ix &&& (2147483647 : Int32)) % (3 : Int32)))), .unset, .unset] [(.int ((iy &&& (2147483647 : Int32)) % (3 : Int32)))])) rfl (by rw [hml]; rfl) (argsL := [(.int ((iy &&& (2147483647 : Int32)) % (3 : Int32)))]) (rest := []) (lenOf pd_0 rfl) rfl (by show 2 * 0 + _ ≤ _; exact Nat.le_of_eq rfl) (hb hby at_21) (fun _ _ => ⟨rfl, e1, (by decide : 0 + 0 ≤ _), (by decide : 0 + 0 ≤ _)⟩)
  dsimp only [Pt.U, Pt.locs, Pt.cells, Pt.slots] at X2 l2 y2 z2 st2 hQ2
  subst l2 y2 z2
  obtain ⟨rfl, N2q, e2⟩ := hQ2
  have N2 := Fr.app N1 N2q
  obtain ⟨cq3, kq3, q3a, q3b, q3c⟩ := isOf hZ e2 E_l
  obtain ⟨_, _, ⟨T3, L3, k3, n3⟩, -, X3, ⟨Lc3, hQ3, l3, y3, z3⟩, st3⟩ := X2.virtualBack hx (y := (⟨"com/example/bindery/bindery/document/arlington/Evaluator$Truth", "and", "(Lcom/example/bindery/bindery/document/arlington/Evaluator$Truth;)Lcom/example/bindery/bindery/document/arlington/Evaluator$Truth;"⟩ : MethodName)) (z := (⟨"com/example/bindery/bindery/document/arlington/Evaluator$Truth", "and", "(Lcom/example/bindery/bindery/document/arlington/Evaluator$Truth;)Lcom/example/bindery/bindery/document/arlington/Evaluator$Truth;"⟩ : MethodName)) hown (mvT hZ (hw _ (List.mem_of_getElem? (i := 8) rfl))) (mvT hZ (hw _ (List.mem_of_getElem? (i := 9) rfl))) (notFace_of_selects (args := #[]) (mvT hZ (hw _ (List.mem_of_getElem? (i := 11) rfl)))) (mvT hZ (hw _ (List.mem_of_getElem? (i := 11) rfl))) (mvT hZ (hw _ (List.mem_of_getElem? (i := 10) rfl))) (by decide) (backOf (W := 0) (rmO l Z a0 hw [] (own_pick f u t ((ix &&& (2147483647 : Int32)) % (3 : Int32))) (own_pick f u t ((iy &&& (2147483647 : Int32)) % (3 : Int32))) f u t h0 n0 Z0 S_F S_U S_T) hZ (hw _ (List.mem_of_getElem? (i := 12) rfl)) (hw _ (List.mem_of_getElem? (i := 6) rfl)) (by decide) (by decide)) q3a q3c (g := (mkF m 30 #[.val (.int ix), .val (.int iy), .val (.int ((ix &&& (2147483647 : Int32)) % (3 : Int32))), .val (.int ((iy &&& (2147483647 : Int32)) % (3 : Int32))), .val (.ref (own_pick f u t ((ix &&& (2147483647 : Int32)) % (3 : Int32)))), .val (.ref (own_pick f u t ((iy &&& (2147483647 : Int32)) % (3 : Int32)))), .unset] [(.ref (own_pick f u t ((iy &&& (2147483647 : Int32)) % (3 : Int32)))), (.ref (own_pick f u t ((ix &&& (2147483647 : Int32)) % (3 : Int32))))])) rfl (by rw [hml]; rfl) (Steps.refl _) (argsL := [(.ref (own_pick f u t ((iy &&& (2147483647 : Int32)) % (3 : Int32))))]) (rest := []) (lenOf pd_1 rfl) rfl (by show 2 * 0 + _ ≤ _; exact Nat.le_of_eq rfl) (hb hby at_30) (fun _ _ => ⟨rfl, e2, (by decide : 0 + 0 ≤ _), (by decide : 0 + 0 ≤ _)⟩)
  dsimp only [Pt.U, Pt.locs, Pt.cells, Pt.slots] at X3 l3 y3 z3 st3 hQ3
  subst l3 y3 z3
  obtain ⟨rfl, N3q, e3⟩ := hQ3
  have N3 := Fr.app N2 N3q
  obtain ⟨_, _, ⟨T4, L4, k4, n4⟩, -, X4, ⟨Lc4, hQ4, l4, y4, z4⟩, st4⟩ := Jvm.LawKit.callS X3 hx (y := (⟨"com/example/bindery/bindery/document/arlington/TruthAndPinLaw", "rank", "(Lcom/example/bindery/bindery/document/arlington/Evaluator$Truth;)I"⟩ : MethodName)) hown (mvT hZ (hw _ (List.mem_of_getElem? (i := 14) rfl))) (mvT hZ (hw _ (List.mem_of_getElem? (i := 15) rfl))) (mvT hZ (hw _ (List.mem_of_getElem? (i := 3) rfl))) (mvT hZ (hw _ (List.mem_of_getElem? (i := 16) rfl))) (by decide) (backOf (W := 0) (rmK l Z a0 hw [] (own_op f u t (own_pick f u t ((ix &&& (2147483647 : Int32)) % (3 : Int32))) (own_pick f u t ((iy &&& (2147483647 : Int32)) % (3 : Int32)))) f u t h0 n0 Z0 S_F S_U S_T) hZ (hw _ (List.mem_of_getElem? (i := 16) rfl)) (hw _ (List.mem_of_getElem? (i := 3) rfl)) (by decide) (by decide)) (g := (mkF m 37 #[.val (.int ix), .val (.int iy), .val (.int ((ix &&& (2147483647 : Int32)) % (3 : Int32))), .val (.int ((iy &&& (2147483647 : Int32)) % (3 : Int32))), .val (.ref (own_pick f u t ((ix &&& (2147483647 : Int32)) % (3 : Int32)))), .val (.ref (own_pick f u t ((iy &&& (2147483647 : Int32)) % (3 : Int32)))), .val (.ref (own_op f u t (own_pick f u t ((ix &&& (2147483647 : Int32)) % (3 : Int32))) (own_pick f u t ((iy &&& (2147483647 : Int32)) % (3 : Int32)))))] [(.ref (own_op f u t (own_pick f u t ((ix &&& (2147483647 : Int32)) % (3 : Int32))) (own_pick f u t ((iy &&& (2147483647 : Int32)) % (3 : Int32)))))])) rfl (by rw [hml]; rfl) (argsL := [(.ref (own_op f u t (own_pick f u t ((ix &&& (2147483647 : Int32)) % (3 : Int32))) (own_pick f u t ((iy &&& (2147483647 : Int32)) % (3 : Int32)))))]) (rest := []) (lenOf pd_2 rfl) rfl (by show 2 * 0 + _ ≤ _; exact Nat.le_of_eq rfl) (hb hby at_37) (fun _ _ => ⟨rfl, e3, (by decide : 0 + 0 ≤ _), (by decide : 0 + 0 ≤ _)⟩)
  dsimp only [Pt.U, Pt.locs, Pt.cells, Pt.slots] at X4 l4 y4 z4 st4 hQ4
  subst l4 y4 z4
  obtain ⟨rfl, N4q, e4⟩ := hQ4
  have N4 := Fr.app N3 N4q
  obtain ⟨_, _, ⟨T5, L5, k5, n5⟩, -, X5, ⟨Lc5, hQ5, l5, y5, z5⟩, st5⟩ := Jvm.LawKit.callS X4 hx (y := (⟨"java/lang/Math", "min", "(II)I"⟩ : MethodName)) hown (mvT hZ (hw _ (List.mem_of_getElem? (i := 17) rfl))) (mvT hZ (hw _ (List.mem_of_getElem? (i := 18) rfl))) (mvT hZ (hw _ (List.mem_of_getElem? (i := 19) rfl))) (mvT hZ (hw _ (List.mem_of_getElem? (i := 20) rfl))) (by decide) (backOf (W := 1) (rmM l Z a0 hw [] ((ix &&& (2147483647 : Int32)) % (3 : Int32)) ((iy &&& (2147483647 : Int32)) % (3 : Int32)) h0 n0 Z0) hZ (hw _ (List.mem_of_getElem? (i := 20) rfl)) (hw _ (List.mem_of_getElem? (i := 19) rfl)) (by decide) (by decide)) (g := (mkF m 42 #[.val (.int ix), .val (.int iy), .val (.int ((ix &&& (2147483647 : Int32)) % (3 : Int32))), .val (.int ((iy &&& (2147483647 : Int32)) % (3 : Int32))), .val (.ref (own_pick f u t ((ix &&& (2147483647 : Int32)) % (3 : Int32)))), .val (.ref (own_pick f u t ((iy &&& (2147483647 : Int32)) % (3 : Int32)))), .val (.ref (own_op f u t (own_pick f u t ((ix &&& (2147483647 : Int32)) % (3 : Int32))) (own_pick f u t ((iy &&& (2147483647 : Int32)) % (3 : Int32)))))] [(.int ((iy &&& (2147483647 : Int32)) % (3 : Int32))), (.int ((ix &&& (2147483647 : Int32)) % (3 : Int32))), (.int (own_rank f u t (own_op f u t (own_pick f u t ((ix &&& (2147483647 : Int32)) % (3 : Int32))) (own_pick f u t ((iy &&& (2147483647 : Int32)) % (3 : Int32))))))])) rfl (by rw [hml]; rfl) (argsL := [(.int ((ix &&& (2147483647 : Int32)) % (3 : Int32))), (.int ((iy &&& (2147483647 : Int32)) % (3 : Int32)))]) (rest := [(.int (own_rank f u t (own_op f u t (own_pick f u t ((ix &&& (2147483647 : Int32)) % (3 : Int32))) (own_pick f u t ((iy &&& (2147483647 : Int32)) % (3 : Int32))))))]) (lenOf pd_3 rfl) rfl (by show 2 * 0 + _ ≤ _; exact Nat.le_of_eq rfl) (hb hby at_42) (fun _ _ => ⟨rfl, e4, (by decide : 0 + 0 ≤ _), (by decide : 0 + 0 ≤ _)⟩)
  dsimp only [Pt.U, Pt.locs, Pt.cells, Pt.slots] at X5 l5 y5 z5 st5 hQ5
  subst l5 y5 z5
  obtain ⟨rfl, N5q, e5⟩ := hQ5
  have N5 := Fr.app N4 N5q
  obtain ⟨fs, hr, hrun, hended, hW, hsame⟩ := X5.leave (v := some (.int (1 : Int32))) (fun h => by rw [Bd.returns] at h; cases h)
  refine ⟨_, _, pre0 _ ?_, hrun, hended, _, _, rfl, ?_, ⟨_, rfl⟩, hW, hsame.mono (by decide) (by decide)⟩
  · show Steps p.tables e below (s₁.setTop (mkF m 0 #[.val (.int ix), .val (.int iy), .unset, .unset, .unset, .unset, .unset] [])) _
    refine XS.iloadN X0.here hx rfl (hb hby at_0) rfl ?_
    show Steps p.tables e below (s₁.setTop (mkF m 1 #[.val (.int ix), .val (.int iy), .unset, .unset, .unset, .unset, .unset] [(.int ix)])) _
    refine X0.ldcInt hx hown (mvT hZ (hw _ (List.mem_of_getElem? (i := 0) rfl))) (g := (mkF m 1 #[.val (.int ix), .val (.int iy), .unset, .unset, .unset, .unset, .unset] [(.int ix)])) rfl (hb hby at_1) _ ?_
    show Steps p.tables e below (s₁.setTop (mkF m 3 #[.val (.int ix), .val (.int iy), .unset, .unset, .unset, .unset, .unset] [(.int (2147483647 : Int32)), (.int ix)])) _
    refine XS.iand X0.here hx rfl (hb hby at_3) rfl ?_
    show Steps p.tables e below (s₁.setTop (mkF m 4 #[.val (.int ix), .val (.int iy), .unset, .unset, .unset, .unset, .unset] [(.int (ix &&& (2147483647 : Int32)))])) _
    refine XS.iconst X0.here hx rfl (hb hby at_4) ?_
    show Steps p.tables e below (s₁.setTop (mkF m 5 #[.val (.int ix), .val (.int iy), .unset, .unset, .unset, .unset, .unset] [(.int (3 : Int32)), (.int (ix &&& (2147483647 : Int32)))])) _
    refine iremM X0 hx rfl (hb hby at_5) rfl (by decide) ?_
    show Steps p.tables e below (s₁.setTop (mkF m 6 #[.val (.int ix), .val (.int iy), .unset, .unset, .unset, .unset, .unset] [(.int ((ix &&& (2147483647 : Int32)) % (3 : Int32)))])) _
    refine XS.istoreN X0.here hx rfl (hb hby at_6) rfl (l' := #[.val (.int ix), .val (.int iy), .val (.int ((ix &&& (2147483647 : Int32)) % (3 : Int32))), .unset, .unset, .unset, .unset]) rfl ?_
    show Steps p.tables e below (s₁.setTop (mkF m 7 #[.val (.int ix), .val (.int iy), .val (.int ((ix &&& (2147483647 : Int32)) % (3 : Int32))), .unset, .unset, .unset, .unset] [])) _
    refine XS.iloadN X0.here hx rfl (hb hby at_7) rfl ?_
    show Steps p.tables e below (s₁.setTop (mkF m 8 #[.val (.int ix), .val (.int iy), .val (.int ((ix &&& (2147483647 : Int32)) % (3 : Int32))), .unset, .unset, .unset, .unset] [(.int iy)])) _
    refine X0.ldcInt hx hown (mvT hZ (hw _ (List.mem_of_getElem? (i := 0) rfl))) (g := (mkF m 8 #[.val (.int ix), .val (.int iy), .val (.int ((ix &&& (2147483647 : Int32)) % (3 : Int32))), .unset, .unset, .unset, .unset] [(.int iy)])) rfl (hb hby at_8) _ ?_
    show Steps p.tables e below (s₁.setTop (mkF m 10 #[.val (.int ix), .val (.int iy), .val (.int ((ix &&& (2147483647 : Int32)) % (3 : Int32))), .unset, .unset, .unset, .unset] [(.int (2147483647 : Int32)), (.int iy)])) _
    refine XS.iand X0.here hx rfl (hb hby at_10) rfl ?_
    show Steps p.tables e below (s₁.setTop (mkF m 11 #[.val (.int ix), .val (.int iy), .val (.int ((ix &&& (2147483647 : Int32)) % (3 : Int32))), .unset, .unset, .unset, .unset] [(.int (iy &&& (2147483647 : Int32)))])) _
    refine XS.iconst X0.here hx rfl (hb hby at_11) ?_
    show Steps p.tables e below (s₁.setTop (mkF m 12 #[.val (.int ix), .val (.int iy), .val (.int ((ix &&& (2147483647 : Int32)) % (3 : Int32))), .unset, .unset, .unset, .unset] [(.int (3 : Int32)), (.int (iy &&& (2147483647 : Int32)))])) _
    refine iremM X0 hx rfl (hb hby at_12) rfl (by decide) ?_
    show Steps p.tables e below (s₁.setTop (mkF m 13 #[.val (.int ix), .val (.int iy), .val (.int ((ix &&& (2147483647 : Int32)) % (3 : Int32))), .unset, .unset, .unset, .unset] [(.int ((iy &&& (2147483647 : Int32)) % (3 : Int32)))])) _
    refine XS.istoreN X0.here hx rfl (hb hby at_13) rfl (l' := #[.val (.int ix), .val (.int iy), .val (.int ((ix &&& (2147483647 : Int32)) % (3 : Int32))), .val (.int ((iy &&& (2147483647 : Int32)) % (3 : Int32))), .unset, .unset, .unset]) rfl ?_
    show Steps p.tables e below (s₁.setTop (mkF m 14 #[.val (.int ix), .val (.int iy), .val (.int ((ix &&& (2147483647 : Int32)) % (3 : Int32))), .val (.int ((iy &&& (2147483647 : Int32)) % (3 : Int32))), .unset, .unset, .unset] [])) _
    refine XS.iloadN X0.here hx rfl (hb hby at_14) rfl ?_
    show Steps p.tables e below (s₁.setTop (mkF m 15 #[.val (.int ix), .val (.int iy), .val (.int ((ix &&& (2147483647 : Int32)) % (3 : Int32))), .val (.int ((iy &&& (2147483647 : Int32)) % (3 : Int32))), .unset, .unset, .unset] [(.int ((ix &&& (2147483647 : Int32)) % (3 : Int32)))])) _
    refine st1 _ ?_
    show Steps p.tables e below (T1.setTop (mkF m 18 #[.val (.int ix), .val (.int iy), .val (.int ((ix &&& (2147483647 : Int32)) % (3 : Int32))), .val (.int ((iy &&& (2147483647 : Int32)) % (3 : Int32))), .unset, .unset, .unset] [(.ref (own_pick f u t ((ix &&& (2147483647 : Int32)) % (3 : Int32))))])) _
    refine XS.astore X1.here hx rfl (hb hby at_18) rfl rfl (l' := #[.val (.int ix), .val (.int iy), .val (.int ((ix &&& (2147483647 : Int32)) % (3 : Int32))), .val (.int ((iy &&& (2147483647 : Int32)) % (3 : Int32))), .val (.ref (own_pick f u t ((ix &&& (2147483647 : Int32)) % (3 : Int32)))), .unset, .unset]) rfl ?_
    show Steps p.tables e below (T1.setTop (mkF m 20 #[.val (.int ix), .val (.int iy), .val (.int ((ix &&& (2147483647 : Int32)) % (3 : Int32))), .val (.int ((iy &&& (2147483647 : Int32)) % (3 : Int32))), .val (.ref (own_pick f u t ((ix &&& (2147483647 : Int32)) % (3 : Int32)))), .unset, .unset] [])) _
    refine XS.iloadN X1.here hx rfl (hb hby at_20) rfl ?_
    show Steps p.tables e below (T1.setTop (mkF m 21 #[.val (.int ix), .val (.int iy), .val (.int ((ix &&& (2147483647 : Int32)) % (3 : Int32))), .val (.int ((iy &&& (2147483647 : Int32)) % (3 : Int32))), .val (.ref (own_pick f u t ((ix &&& (2147483647 : Int32)) % (3 : Int32)))), .unset, .unset] [(.int ((iy &&& (2147483647 : Int32)) % (3 : Int32)))])) _
    refine st2 _ ?_
    show Steps p.tables e below (T2.setTop (mkF m 24 #[.val (.int ix), .val (.int iy), .val (.int ((ix &&& (2147483647 : Int32)) % (3 : Int32))), .val (.int ((iy &&& (2147483647 : Int32)) % (3 : Int32))), .val (.ref (own_pick f u t ((ix &&& (2147483647 : Int32)) % (3 : Int32)))), .unset, .unset] [(.ref (own_pick f u t ((iy &&& (2147483647 : Int32)) % (3 : Int32))))])) _
    refine XS.astore X2.here hx rfl (hb hby at_24) rfl rfl (l' := #[.val (.int ix), .val (.int iy), .val (.int ((ix &&& (2147483647 : Int32)) % (3 : Int32))), .val (.int ((iy &&& (2147483647 : Int32)) % (3 : Int32))), .val (.ref (own_pick f u t ((ix &&& (2147483647 : Int32)) % (3 : Int32)))), .val (.ref (own_pick f u t ((iy &&& (2147483647 : Int32)) % (3 : Int32)))), .unset]) rfl ?_
    show Steps p.tables e below (T2.setTop (mkF m 26 #[.val (.int ix), .val (.int iy), .val (.int ((ix &&& (2147483647 : Int32)) % (3 : Int32))), .val (.int ((iy &&& (2147483647 : Int32)) % (3 : Int32))), .val (.ref (own_pick f u t ((ix &&& (2147483647 : Int32)) % (3 : Int32)))), .val (.ref (own_pick f u t ((iy &&& (2147483647 : Int32)) % (3 : Int32)))), .unset] [])) _
    refine XS.aload X2.here hx rfl (hb hby at_26) rfl rfl ?_
    show Steps p.tables e below (T2.setTop (mkF m 28 #[.val (.int ix), .val (.int iy), .val (.int ((ix &&& (2147483647 : Int32)) % (3 : Int32))), .val (.int ((iy &&& (2147483647 : Int32)) % (3 : Int32))), .val (.ref (own_pick f u t ((ix &&& (2147483647 : Int32)) % (3 : Int32)))), .val (.ref (own_pick f u t ((iy &&& (2147483647 : Int32)) % (3 : Int32)))), .unset] [(.ref (own_pick f u t ((ix &&& (2147483647 : Int32)) % (3 : Int32))))])) _
    refine XS.aload X2.here hx rfl (hb hby at_28) rfl rfl ?_
    show Steps p.tables e below (T2.setTop (mkF m 30 #[.val (.int ix), .val (.int iy), .val (.int ((ix &&& (2147483647 : Int32)) % (3 : Int32))), .val (.int ((iy &&& (2147483647 : Int32)) % (3 : Int32))), .val (.ref (own_pick f u t ((ix &&& (2147483647 : Int32)) % (3 : Int32)))), .val (.ref (own_pick f u t ((iy &&& (2147483647 : Int32)) % (3 : Int32)))), .unset] [(.ref (own_pick f u t ((iy &&& (2147483647 : Int32)) % (3 : Int32)))), (.ref (own_pick f u t ((ix &&& (2147483647 : Int32)) % (3 : Int32))))])) _
    refine st3.trans ?_
    show Steps p.tables e below (T3.setTop (mkF m 33 #[.val (.int ix), .val (.int iy), .val (.int ((ix &&& (2147483647 : Int32)) % (3 : Int32))), .val (.int ((iy &&& (2147483647 : Int32)) % (3 : Int32))), .val (.ref (own_pick f u t ((ix &&& (2147483647 : Int32)) % (3 : Int32)))), .val (.ref (own_pick f u t ((iy &&& (2147483647 : Int32)) % (3 : Int32)))), .unset] [(.ref (own_op f u t (own_pick f u t ((ix &&& (2147483647 : Int32)) % (3 : Int32))) (own_pick f u t ((iy &&& (2147483647 : Int32)) % (3 : Int32)))))])) _
    refine XS.astore X3.here hx rfl (hb hby at_33) rfl rfl (l' := #[.val (.int ix), .val (.int iy), .val (.int ((ix &&& (2147483647 : Int32)) % (3 : Int32))), .val (.int ((iy &&& (2147483647 : Int32)) % (3 : Int32))), .val (.ref (own_pick f u t ((ix &&& (2147483647 : Int32)) % (3 : Int32)))), .val (.ref (own_pick f u t ((iy &&& (2147483647 : Int32)) % (3 : Int32)))), .val (.ref (own_op f u t (own_pick f u t ((ix &&& (2147483647 : Int32)) % (3 : Int32))) (own_pick f u t ((iy &&& (2147483647 : Int32)) % (3 : Int32)))))]) rfl ?_
    show Steps p.tables e below (T3.setTop (mkF m 35 #[.val (.int ix), .val (.int iy), .val (.int ((ix &&& (2147483647 : Int32)) % (3 : Int32))), .val (.int ((iy &&& (2147483647 : Int32)) % (3 : Int32))), .val (.ref (own_pick f u t ((ix &&& (2147483647 : Int32)) % (3 : Int32)))), .val (.ref (own_pick f u t ((iy &&& (2147483647 : Int32)) % (3 : Int32)))), .val (.ref (own_op f u t (own_pick f u t ((ix &&& (2147483647 : Int32)) % (3 : Int32))) (own_pick f u t ((iy &&& (2147483647 : Int32)) % (3 : Int32)))))] [])) _
    refine XS.aload X3.here hx rfl (hb hby at_35) rfl rfl ?_
    show Steps p.tables e below (T3.setTop (mkF m 37 #[.val (.int ix), .val (.int iy), .val (.int ((ix &&& (2147483647 : Int32)) % (3 : Int32))), .val (.int ((iy &&& (2147483647 : Int32)) % (3 : Int32))), .val (.ref (own_pick f u t ((ix &&& (2147483647 : Int32)) % (3 : Int32)))), .val (.ref (own_pick f u t ((iy &&& (2147483647 : Int32)) % (3 : Int32)))), .val (.ref (own_op f u t (own_pick f u t ((ix &&& (2147483647 : Int32)) % (3 : Int32))) (own_pick f u t ((iy &&& (2147483647 : Int32)) % (3 : Int32)))))] [(.ref (own_op f u t (own_pick f u t ((ix &&& (2147483647 : Int32)) % (3 : Int32))) (own_pick f u t ((iy &&& (2147483647 : Int32)) % (3 : Int32)))))])) _
    refine st4 _ ?_
    show Steps p.tables e below (T4.setTop (mkF m 40 #[.val (.int ix), .val (.int iy), .val (.int ((ix &&& (2147483647 : Int32)) % (3 : Int32))), .val (.int ((iy &&& (2147483647 : Int32)) % (3 : Int32))), .val (.ref (own_pick f u t ((ix &&& (2147483647 : Int32)) % (3 : Int32)))), .val (.ref (own_pick f u t ((iy &&& (2147483647 : Int32)) % (3 : Int32)))), .val (.ref (own_op f u t (own_pick f u t ((ix &&& (2147483647 : Int32)) % (3 : Int32))) (own_pick f u t ((iy &&& (2147483647 : Int32)) % (3 : Int32)))))] [(.int (own_rank f u t (own_op f u t (own_pick f u t ((ix &&& (2147483647 : Int32)) % (3 : Int32))) (own_pick f u t ((iy &&& (2147483647 : Int32)) % (3 : Int32))))))])) _
    refine XS.iloadN X4.here hx rfl (hb hby at_40) rfl ?_
    show Steps p.tables e below (T4.setTop (mkF m 41 #[.val (.int ix), .val (.int iy), .val (.int ((ix &&& (2147483647 : Int32)) % (3 : Int32))), .val (.int ((iy &&& (2147483647 : Int32)) % (3 : Int32))), .val (.ref (own_pick f u t ((ix &&& (2147483647 : Int32)) % (3 : Int32)))), .val (.ref (own_pick f u t ((iy &&& (2147483647 : Int32)) % (3 : Int32)))), .val (.ref (own_op f u t (own_pick f u t ((ix &&& (2147483647 : Int32)) % (3 : Int32))) (own_pick f u t ((iy &&& (2147483647 : Int32)) % (3 : Int32)))))] [(.int ((ix &&& (2147483647 : Int32)) % (3 : Int32))), (.int (own_rank f u t (own_op f u t (own_pick f u t ((ix &&& (2147483647 : Int32)) % (3 : Int32))) (own_pick f u t ((iy &&& (2147483647 : Int32)) % (3 : Int32))))))])) _
    refine XS.iloadN X4.here hx rfl (hb hby at_41) rfl ?_
    show Steps p.tables e below (T4.setTop (mkF m 42 #[.val (.int ix), .val (.int iy), .val (.int ((ix &&& (2147483647 : Int32)) % (3 : Int32))), .val (.int ((iy &&& (2147483647 : Int32)) % (3 : Int32))), .val (.ref (own_pick f u t ((ix &&& (2147483647 : Int32)) % (3 : Int32)))), .val (.ref (own_pick f u t ((iy &&& (2147483647 : Int32)) % (3 : Int32)))), .val (.ref (own_op f u t (own_pick f u t ((ix &&& (2147483647 : Int32)) % (3 : Int32))) (own_pick f u t ((iy &&& (2147483647 : Int32)) % (3 : Int32)))))] [(.int ((iy &&& (2147483647 : Int32)) % (3 : Int32))), (.int ((ix &&& (2147483647 : Int32)) % (3 : Int32))), (.int (own_rank f u t (own_op f u t (own_pick f u t ((ix &&& (2147483647 : Int32)) % (3 : Int32))) (own_pick f u t ((iy &&& (2147483647 : Int32)) % (3 : Int32))))))])) _
    refine st5 _ ?_
    show Steps p.tables e below (T5.setTop (mkF m 45 #[.val (.int ix), .val (.int iy), .val (.int ((ix &&& (2147483647 : Int32)) % (3 : Int32))), .val (.int ((iy &&& (2147483647 : Int32)) % (3 : Int32))), .val (.ref (own_pick f u t ((ix &&& (2147483647 : Int32)) % (3 : Int32)))), .val (.ref (own_pick f u t ((iy &&& (2147483647 : Int32)) % (3 : Int32)))), .val (.ref (own_op f u t (own_pick f u t ((ix &&& (2147483647 : Int32)) % (3 : Int32))) (own_pick f u t ((iy &&& (2147483647 : Int32)) % (3 : Int32)))))] [(.int (own_mm ((ix &&& (2147483647 : Int32)) % (3 : Int32)) ((iy &&& (2147483647 : Int32)) % (3 : Int32)))), (.int (own_rank f u t (own_op f u t (own_pick f u t ((ix &&& (2147483647 : Int32)) % (3 : Int32))) (own_pick f u t ((iy &&& (2147483647 : Int32)) % (3 : Int32))))))])) _
    refine XS.icmpNo X5.here hx rfl (hb hby at_45) rfl (teq (own_law f u t fu ft ut ix iy)).2 ?_
    show Steps p.tables e below (T5.setTop (mkF m 48 #[.val (.int ix), .val (.int iy), .val (.int ((ix &&& (2147483647 : Int32)) % (3 : Int32))), .val (.int ((iy &&& (2147483647 : Int32)) % (3 : Int32))), .val (.ref (own_pick f u t ((ix &&& (2147483647 : Int32)) % (3 : Int32)))), .val (.ref (own_pick f u t ((iy &&& (2147483647 : Int32)) % (3 : Int32)))), .val (.ref (own_op f u t (own_pick f u t ((ix &&& (2147483647 : Int32)) % (3 : Int32))) (own_pick f u t ((iy &&& (2147483647 : Int32)) % (3 : Int32)))))] [])) _
    refine XS.iconst X5.here hx rfl (hb hby at_48) ?_
    show Steps p.tables e below (T5.setTop (mkF m 49 #[.val (.int ix), .val (.int iy), .val (.int ((ix &&& (2147483647 : Int32)) % (3 : Int32))), .val (.int ((iy &&& (2147483647 : Int32)) % (3 : Int32))), .val (.ref (own_pick f u t ((ix &&& (2147483647 : Int32)) % (3 : Int32)))), .val (.ref (own_pick f u t ((iy &&& (2147483647 : Int32)) % (3 : Int32)))), .val (.ref (own_op f u t (own_pick f u t ((ix &&& (2147483647 : Int32)) % (3 : Int32))) (own_pick f u t ((iy &&& (2147483647 : Int32)) % (3 : Int32)))))] [(.int (1 : Int32))])) _
    refine XS.goto X5.here hx rfl (pc0 := 49) (pc' := 53) rfl (hb hby at_49) (by decide) (by decide) ?_
    show Steps p.tables e below (T5.setTop (mkF m 53 #[.val (.int ix), .val (.int iy), .val (.int ((ix &&& (2147483647 : Int32)) % (3 : Int32))), .val (.int ((iy &&& (2147483647 : Int32)) % (3 : Int32))), .val (.ref (own_pick f u t ((ix &&& (2147483647 : Int32)) % (3 : Int32)))), .val (.ref (own_pick f u t ((iy &&& (2147483647 : Int32)) % (3 : Int32)))), .val (.ref (own_op f u t (own_pick f u t ((ix &&& (2147483647 : Int32)) % (3 : Int32))) (own_pick f u t ((iy &&& (2147483647 : Int32)) % (3 : Int32)))))] [(.int (1 : Int32))])) _
    exact retN X5 hx (t := .boolean) Bd.returns (by simp) (hb hby at_53) hr
  · show own_Q0 Z ix iy f u t h0 n0 _ T5.heap _
    rw [e5]
    exact ⟨rfl, N5⟩
set_option maxRecDepth 65536 in
set_option maxHeartbeats 40000000 in
theorem comes_1 {Post : Tables → Env → Array Value → State → Outcome → State → Prop} (hpost : ∀ tb e args s v u, (limb_1_1.after args s (.returned v) u = true ∧ limb_1_2.after args s (.returned v) u = true ∧ True) → FrameEnd s (.returned v) u (Jvm.fieldLocs frame_1_writes args s ++ Jvm.arrayLocs frame_1_arrays args s ++ Jvm.staticLocs frame_1_statics s) 0 0 → Post tb e args s (.returned v) u) :
    ArmFor flags0 classFile x code maxLocals ret World_1 tables_1 room_1 Calls_1 rest_1 Pre_1 Post := by
  intro l hfl _ _ p e ha hc hk s m args below hf hA hF happ hP
  obtain ⟨hcalls, hrest, hpre⟩ := hP
  obtain ⟨-, -, -, hnamed, -, -, -, hat⟩ := (Spec.applies_iff hf).mp happ
  obtain ⟨hg, hn⟩ := and_e (Cond.before_iff.mp (show (Jvm.Cond.and given_1 narrow_1).before args s = true from hpre))
  obtain ⟨hcount, hg0⟩ := and_e hg
  obtain ⟨hv0, hg1⟩ := and_e hg0
  have hv1 := hg1
  obtain ⟨w0, w1, rfl⟩ : ∃ w0 w1 : Value, args = #[w0, w1] := by
    have hs : args.size = 2 := by simpa [Cond.value, given_1] using hcount
    obtain ⟨L⟩ := args
    match L, hs with
    | [w0, w1], _ => exact ⟨w0, w1, rfl⟩
  have hw := fun d (hd : d ∈ tables_1) => atoms_spec (ws := Jvm.Cond.code x code maxLocals ret :: tables_1) hat d (List.mem_cons_of_mem _ hd)
  have hfit : Fit s := fun {y c} hc i hi => by
    obtain ⟨ha, rfl⟩ := Array.getElem?_eq_some_iff.mp hc
    have q := List.all_eq_true.mp ((Array.all_eq_true_iff_forall_mem.mp hF) _ (Array.getElem_mem ha)) i (List.mem_range.mpr hi)
    simpa [Array.getElem?_eq_getElem hi] using q
  obtain ⟨i0, ei0⟩ := is_v hv0
  obtain rfl : w0 = (.int i0) := Option.some.inj ei0
  obtain ⟨i1, ei1⟩ := is_v hv1
  obtain rfl : w1 = (.int i1) := Option.some.inj ei1
  obtain ⟨nw0, nr0⟩ := and_e hn
  obtain ⟨nw1, nr1⟩ := and_e nr0
  obtain ⟨nw2, nr2⟩ := and_e nr1
  obtain ⟨nw3, nr3⟩ := and_e nr2
  obtain ⟨nw4, nr4⟩ := and_e nr3
  have nw5 := nr4
  obtain ⟨f, e_f⟩ := exa_v nw0
  have E_f := Exa.start e_f nw0
  have S_F : Sta s s.heap "com/example/bindery/bindery/document/arlington/Evaluator$Truth" "FALSE" "Lcom/example/bindery/bindery/document/arlington/Evaluator$Truth;" (.ref f) := Sta.start e_f (Or.inr ⟨(hw _ (List.mem_of_getElem? (i := 6) rfl)), (hw _ (List.mem_of_getElem? (i := 7) rfl))⟩)
  obtain ⟨t, e_t⟩ := exa_v nw1
  have E_t := Exa.start e_t nw1
  have S_T : Sta s s.heap "com/example/bindery/bindery/document/arlington/Evaluator$Truth" "TRUE" "Lcom/example/bindery/bindery/document/arlington/Evaluator$Truth;" (.ref t) := Sta.start e_t (Or.inr ⟨(hw _ (List.mem_of_getElem? (i := 6) rfl)), (hw _ (List.mem_of_getElem? (i := 22) rfl))⟩)
  obtain ⟨u, e_u⟩ := exa_v nw2
  have E_u := Exa.start e_u nw2
  have S_U : Sta s s.heap "com/example/bindery/bindery/document/arlington/Evaluator$Truth" "UNKNOWN" "Lcom/example/bindery/bindery/document/arlington/Evaluator$Truth;" (.ref u) := Sta.start e_u (Or.inr ⟨(hw _ (List.mem_of_getElem? (i := 6) rfl)), (hw _ (List.mem_of_getElem? (i := 24) rfl))⟩)
  have O_t := own_ord nw3 e_t
  have O_f := own_ord nw4 e_f
  have O_u := own_ord nw5 e_u
  obtain ⟨n, o, h1, h2, h3, _, L, rfl, ⟨rfl, N⟩, hq⟩ := rm0 l s _ hw tables_1 i0 i1 f u t s.heap s.heap.size (Nat.le_refl _) S_F S_U S_T E_f E_u E_t (O_f.ne O_u (by decide)) (O_f.ne O_t (by decide)) (O_u.ne O_t (by decide)) p e ha hc hk s m _ below hf ((Spec.applies_iff_loose hf).mp happ).1 ⟨rfl, State.Warmed39.refl s, rfl⟩ trivial
  refine ⟨n, _, h1, h2, h3, hpost _ _ _ _ _ _ ⟨Cond.after_iff.mpr rfl, Cond.after_iff.mpr (eq_i res_at (Term.int_eval (1)) rfl), trivial⟩ ⟨hq.1, hq.2.1, (hq.2.2.sift fun y hy => Or.inr (N y hy)).mono (by decide) (by decide)⟩⟩
theorem main_1_1 : Claimed_1_1 := comes_1 fun _ _ _ _ _ _ h hF => ⟨h.1, hF⟩
theorem main_1_2 : Claimed_1_2 := comes_1 fun _ _ _ _ _ _ h hF => ⟨h.2.1, hF⟩
end Jvm.Pilot.@@N@@
namespace Jvm.Pilot.@@N@@
open Jvm Jvm.ClassFile Sem Op Lib Jvm.Free Jvm.Stand Jvm.Pilot.@@N@@.Jvm.D
/-! MADE BY PROGRAM (witnessworld.py) out of the Statement's table words and the real class files: 11 classes; the members and pool entries that the words name. The judged class is class 1, her method 3. -/
namespace start1
open Jvm.ClassFile
def u (s : String) : CpInfo := .utf8 (stringToUtf16 s)
/-- a pool by its gaps: so many unusable entries, then the entry; so many at the end -/
def gap : Nat → List CpInfo → List CpInfo
  | 0, r => r
  | n + 1, r => .unusable :: gap n r
def poolList (es : List (Nat × CpInfo)) (last : Nat) : List CpInfo := es.foldr (fun e r => gap e.1 (e.2 :: r)) (gap last [])
def pool (es : List (Nat × CpInfo)) (last : Nat) : Array CpInfo := ⟨poolList es last⟩
def fileOf (pool : Array CpInfo) (this : Nat) (attrs : Array Attribute := #[]) (ms : Array MethodInfo := #[]) (fl : Nat := 33) (sup : Nat := 0) (ifs : Array Nat := #[]) (fds : Array FieldInfo := #[]) : ClassFile where
  minorVersion := 0
  majorVersion := 65
  constantPool := pool
  accessFlags := fl
  thisClass := this
  superClass := sup
  interfaces := ifs
  fields := fds
  methods := ms
  attributes := attrs
def plain (name : String) (sup : Option ClassId) : Class where
  name := name
  kind := .ordinary
  loader := none
  accessFlags := 33
  super := sup
  interfaces := #[]
  cf := none
  fields := #[]
  methods := #[]
  instanceTypes := #[]
  staticTypes := #[]
  resolved := #[]
  callSites := []
  init := .initialized
  statics := none
  mirror := none

def pool0 : Array CpInfo := pool [(5, u "<init>"), (0, u "()V"), (1, .class_ 10), (1, u "java/lang/Object")] 113

def k0m0 : Method := { name := "<init>", desc := "()V", sig := { parameters := [], returnType := none }, accessFlags := 1, code := none }
/-- java/lang/Object -/
def k0 : Class := { plain "java/lang/Object" none with
  accessFlags := 33
  interfaces := #[]
  cf := some (fileOf pool0 8 #[] #[{ accessFlags := 1, nameIndex := 5, descriptorIndex := 6, attributes := #[] }] 33 0 #[] #[])
  fields := #[]
  methods := #[k0m0]
  instanceTypes := #[]
  staticTypes := #[]
  resolved := Array.replicate 124 none
  statics := none }

def pool1 : Array CpInfo := pool [(2, .class_ 4), (1, u "java/lang/Object"), (0, u "<init>"), (0, u "()V"), (0, .fieldref 8 9), (0, .class_ 10), (0, .nameAndType 11 12), (0, u "com/example/bindery/bindery/document/arlington/Evaluator$Truth"), (0, u "FALSE"), (0, u "Lcom/example/bindery/bindery/document/arlington/Evaluator$Truth;"), (0, .fieldref 8 14), (0, .nameAndType 15 12), (0, u "UNKNOWN"), (0, .fieldref 8 17), (0, .nameAndType 18 12), (0, u "TRUE"), (0, .integer 2147483647), (0, .methodref 21 22), (0, .class_ 23), (0, .nameAndType 24 25), (0, u "com/example/bindery/bindery/document/arlington/TruthAndPinLaw"), (0, u "truth"), (0, u "(I)Lcom/example/bindery/bindery/document/arlington/Evaluator$Truth;"), (0, .methodref 8 27), (0, .nameAndType 28 29), (0, u "and"), (0, u "(Lcom/example/bindery/bindery/document/arlington/Evaluator$Truth;)Lcom/example/bindery/bindery/document/arlington/Evaluator$Truth;"), (0, .methodref 21 31), (0, .nameAndType 32 33), (0, u "rank"), (0, u "(Lcom/example/bindery/bindery/document/arlington/Evaluator$Truth;)I"), (0, .methodref 35 36), (0, .class_ 37), (0, .nameAndType 38 39), (0, u "java/lang/Math"), (0, u "min"), (0, u "(II)I"), (3, u "law"), (0, u "(II)Z")] 6

def k1m0 : Method := { name := "<init>", desc := "()V", sig := { parameters := [], returnType := none }, accessFlags := 1, code := none }
def k1c1 : Code := { maxStack := 2, maxLocals := 1, code := method_2_code, exceptionTable := #[], attributes := #[] }
def k1m1 : Method := { name := "truth", desc := "(I)Lcom/example/bindery/bindery/document/arlington/Evaluator$Truth;", sig := { parameters := [.int], returnType := some (.object "com/example/bindery/bindery/document/arlington/Evaluator$Truth") }, accessFlags := 10, code := some k1c1 }
def k1c2 : Code := { maxStack := 2, maxLocals := 1, code := method_3_code, exceptionTable := #[], attributes := #[] }
def k1m2 : Method := { name := "rank", desc := "(Lcom/example/bindery/bindery/document/arlington/Evaluator$Truth;)I", sig := { parameters := [(.object "com/example/bindery/bindery/document/arlington/Evaluator$Truth")], returnType := some .int }, accessFlags := 10, code := some k1c2 }
def k1c3 : Code := { maxStack := 3, maxLocals := 7, code := code, exceptionTable := #[], attributes := #[] }
def k1m3 : Method := { name := "law", desc := "(II)Z", sig := { parameters := [.int, .int], returnType := some .boolean }, accessFlags := 9, code := some k1c3 }
/-- com/example/bindery/bindery/document/arlington/TruthAndPinLaw -/
def k1 : Class := { plain "com/example/bindery/bindery/document/arlington/TruthAndPinLaw" (some 0) with
  accessFlags := 49
  interfaces := #[]
  cf := some (fileOf pool1 21 #[] #[{ accessFlags := 1, nameIndex := 5, descriptorIndex := 6, attributes := #[] }, { accessFlags := 10, nameIndex := 24, descriptorIndex := 25, attributes := #[] }, { accessFlags := 10, nameIndex := 32, descriptorIndex := 33, attributes := #[] }, { accessFlags := 9, nameIndex := 43, descriptorIndex := 44, attributes := #[] }] 49 2 #[] #[])
  fields := #[]
  methods := #[k1m0, k1m1, k1m2, k1m3]
  instanceTypes := #[]
  staticTypes := #[]
  resolved := Array.replicate 51 none
  statics := none }

def pool2 : Array CpInfo := pool [(1, .class_ 2), (0, u "java/lang/constant/Constable"), (0, .class_ 4), (0, u "java/lang/Object")] 6

/-- java/lang/constant/Constable -/
def k2 : Class := { plain "java/lang/constant/Constable" (some 0) with
  accessFlags := 1537
  interfaces := #[]
  cf := some (fileOf pool2 1 #[] #[] 1537 3 #[] #[])
  fields := #[]
  methods := #[]
  instanceTypes := #[]
  staticTypes := #[]
  resolved := Array.replicate 11 none
  statics := none }

def pool3 : Array CpInfo := pool [(1, .class_ 2), (0, u "java/lang/Comparable"), (0, .class_ 4), (0, u "java/lang/Object")] 7

/-- java/lang/Comparable -/
def k3 : Class := { plain "java/lang/Comparable" (some 0) with
  accessFlags := 1537
  interfaces := #[]
  cf := some (fileOf pool3 1 #[] #[] 1537 3 #[] #[])
  fields := #[]
  methods := #[]
  instanceTypes := #[]
  staticTypes := #[]
  resolved := Array.replicate 12 none
  statics := none }

def pool4 : Array CpInfo := pool [(1, .class_ 2), (0, u "java/io/Serializable"), (0, .class_ 4), (0, u "java/lang/Object")] 2

/-- java/io/Serializable -/
def k4 : Class := { plain "java/io/Serializable" (some 0) with
  accessFlags := 1537
  interfaces := #[]
  cf := some (fileOf pool4 1 #[] #[] 1537 3 #[] #[])
  fields := #[]
  methods := #[]
  instanceTypes := #[]
  staticTypes := #[]
  resolved := Array.replicate 7 none
  statics := none }

def pool5 : Array CpInfo := pool [(2, .class_ 4), (1, u "java/lang/Enum"), (0, u "name"), (0, u "Ljava/lang/String;"), (2, u "ordinal"), (0, u "I"), (1, .class_ 14), (1, u "java/lang/Object"), (4, u "hash"), (86, .class_ 108), (1, u "java/lang/Enum$EnumDesc"), (2, .class_ 112), (0, u "java/lang/constant/Constable"), (0, .class_ 114), (0, u "java/lang/Comparable"), (0, .class_ 116), (0, u "java/io/Serializable")] 87

/-- java/lang/Enum -/
def k5 : Class := { plain "java/lang/Enum" (some 0) with
  accessFlags := 1057
  interfaces := #[2, 3, 4]
  cf := some (fileOf pool5 2 #[.nestMembers #[106]] #[] 1057 12 #[111, 113, 115] #[{ accessFlags := 18, nameIndex := 5, descriptorIndex := 6, attributes := #[] }, { accessFlags := 18, nameIndex := 9, descriptorIndex := 10, attributes := #[] }, { accessFlags := 2, nameIndex := 19, descriptorIndex := 10, attributes := #[] }])
  fields := #[{ name := "name", type := (.object "java/lang/String"), accessFlags := 18, slot := 0, constantValue := 0 }, { name := "ordinal", type := .int, accessFlags := 18, slot := 1, constantValue := 0 }, { name := "hash", type := .int, accessFlags := 2, slot := 2, constantValue := 0 }]
  methods := #[]
  instanceTypes := #[(.object "java/lang/String"), .int, .int]
  staticTypes := #[]
  resolved := Array.replicate 204 none
  statics := none }

def pool6 : Array CpInfo := pool [(1, .class_ 2), (0, u "com/example/bindery/bindery/document/arlington/Evaluator$Truth"), (0, .fieldref 1 4), (0, .nameAndType 5 6), (0, u "TRUE"), (0, u "Lcom/example/bindery/bindery/document/arlington/Evaluator$Truth;"), (0, .fieldref 1 8), (0, .nameAndType 9 6), (0, u "FALSE"), (0, .fieldref 1 11), (0, .nameAndType 12 6), (0, u "UNKNOWN"), (2, u "$VALUES"), (0, u "[Lcom/example/bindery/bindery/document/arlington/Evaluator$Truth;"), (6, .class_ 25), (1, u "java/lang/Enum"), (28, u "and"), (0, u "(Lcom/example/bindery/bindery/document/arlington/Evaluator$Truth;)Lcom/example/bindery/bindery/document/arlington/Evaluator$Truth;"), (6, .class_ 63), (0, u "com/example/bindery/bindery/document/arlington/Evaluator")] 2

def k6c0 : Code := { maxStack := 2, maxLocals := 2, code := prog_81_method_6_code, exceptionTable := #[], attributes := #[] }
def k6m0 : Method := { name := "and", desc := "(Lcom/example/bindery/bindery/document/arlington/Evaluator$Truth;)Lcom/example/bindery/bindery/document/arlington/Evaluator$Truth;", sig := { parameters := [(.object "com/example/bindery/bindery/document/arlington/Evaluator$Truth")], returnType := some (.object "com/example/bindery/bindery/document/arlington/Evaluator$Truth") }, accessFlags := 0, code := some k6c0 }
/-- com/example/bindery/bindery/document/arlington/Evaluator$Truth -/
def k6 : Class := { plain "com/example/bindery/bindery/document/arlington/Evaluator$Truth" (some 5) with
  accessFlags := 16432
  interfaces := #[]
  cf := some (fileOf pool6 1 #[.nestHost 62] #[{ accessFlags := 0, nameIndex := 54, descriptorIndex := 55, attributes := #[] }] 16432 23 #[] #[{ accessFlags := 16409, nameIndex := 5, descriptorIndex := 6, attributes := #[] }, { accessFlags := 16409, nameIndex := 9, descriptorIndex := 6, attributes := #[] }, { accessFlags := 16409, nameIndex := 12, descriptorIndex := 6, attributes := #[] }, { accessFlags := 4122, nameIndex := 15, descriptorIndex := 16, attributes := #[] }])
  fields := #[{ name := "TRUE", type := (.object "com/example/bindery/bindery/document/arlington/Evaluator$Truth"), accessFlags := 16409, slot := 0, constantValue := 0 }, { name := "FALSE", type := (.object "com/example/bindery/bindery/document/arlington/Evaluator$Truth"), accessFlags := 16409, slot := 1, constantValue := 0 }, { name := "UNKNOWN", type := (.object "com/example/bindery/bindery/document/arlington/Evaluator$Truth"), accessFlags := 16409, slot := 2, constantValue := 0 }, { name := "$VALUES", type := (.array (.object "com/example/bindery/bindery/document/arlington/Evaluator$Truth")), accessFlags := 4122, slot := 3, constantValue := 0 }]
  methods := #[k6m0]
  instanceTypes := #[(.object "java/lang/String"), .int, .int]
  staticTypes := #[(.object "com/example/bindery/bindery/document/arlington/Evaluator$Truth"), (.object "com/example/bindery/bindery/document/arlington/Evaluator$Truth"), (.object "com/example/bindery/bindery/document/arlington/Evaluator$Truth"), (.array (.object "com/example/bindery/bindery/document/arlington/Evaluator$Truth"))]
  resolved := Array.replicate 66 none
  statics := some 0 }

def pool7 : Array CpInfo := pool [(1, .class_ 2), (0, u "java/lang/Math"), (1, .class_ 6), (1, u "java/lang/Object"), (0, u "<init>"), (0, u "()V"), (89, .class_ 100), (1, u "java/lang/Math$RandomNumberGeneratorHolder"), (71, u "negativeZeroFloatBits"), (0, u "J"), (2, u "negativeZeroDoubleBits"), (24, u "min"), (43, u "$assertionsDisabled"), (0, u "Z"), (88, u "(II)I"), (2, u "twoToTheDoubleScaleDown"), (0, u "D"), (4, u "twoToTheDoubleScaleUp"), (9, u "E"), (3, u "PI"), (2, u "TAU"), (2, u "DEGREES_TO_RADIANS"), (0, u "RADIANS_TO_DEGREES")] 94

def k7m0 : Method := { name := "<init>", desc := "()V", sig := { parameters := [], returnType := none }, accessFlags := 2, code := none }
def k7c1 : Code := { maxStack := 2, maxLocals := 2, code := jdk_29_method_69_code, exceptionTable := #[], attributes := #[] }
def k7m1 : Method := { name := "min", desc := "(II)I", sig := { parameters := [.int, .int], returnType := some .int }, accessFlags := 9, code := some k7c1 }
/-- java/lang/Math -/
def k7 : Class := { plain "java/lang/Math" (some 0) with
  accessFlags := 49
  interfaces := #[]
  cf := some (fileOf pool7 1 #[.nestMembers #[98]] #[{ accessFlags := 2, nameIndex := 7, descriptorIndex := 8, attributes := #[] }, { accessFlags := 9, nameIndex := 201, descriptorIndex := 335, attributes := #[] }] 49 4 #[] #[{ accessFlags := 25, nameIndex := 354, descriptorIndex := 339, attributes := #[] }, { accessFlags := 25, nameIndex := 358, descriptorIndex := 339, attributes := #[] }, { accessFlags := 25, nameIndex := 361, descriptorIndex := 339, attributes := #[] }, { accessFlags := 26, nameIndex := 364, descriptorIndex := 339, attributes := #[] }, { accessFlags := 26, nameIndex := 365, descriptorIndex := 339, attributes := #[] }, { accessFlags := 26, nameIndex := 172, descriptorIndex := 173, attributes := #[] }, { accessFlags := 26, nameIndex := 176, descriptorIndex := 173, attributes := #[] }, { accessFlags := 8, nameIndex := 344, descriptorIndex := 339, attributes := #[] }, { accessFlags := 8, nameIndex := 338, descriptorIndex := 339, attributes := #[] }, { accessFlags := 4120, nameIndex := 245, descriptorIndex := 246, attributes := #[] }])
  fields := #[{ name := "E", type := .double, accessFlags := 25, slot := 0, constantValue := 0 }, { name := "PI", type := .double, accessFlags := 25, slot := 1, constantValue := 0 }, { name := "TAU", type := .double, accessFlags := 25, slot := 2, constantValue := 0 }, { name := "DEGREES_TO_RADIANS", type := .double, accessFlags := 26, slot := 3, constantValue := 0 }, { name := "RADIANS_TO_DEGREES", type := .double, accessFlags := 26, slot := 4, constantValue := 0 }, { name := "negativeZeroFloatBits", type := .long, accessFlags := 26, slot := 5, constantValue := 0 }, { name := "negativeZeroDoubleBits", type := .long, accessFlags := 26, slot := 6, constantValue := 0 }, { name := "twoToTheDoubleScaleUp", type := .double, accessFlags := 8, slot := 7, constantValue := 0 }, { name := "twoToTheDoubleScaleDown", type := .double, accessFlags := 8, slot := 8, constantValue := 0 }, { name := "$assertionsDisabled", type := .boolean, accessFlags := 4120, slot := 9, constantValue := 0 }]
  methods := #[k7m0, k7m1]
  instanceTypes := #[]
  staticTypes := #[.double, .double, .double, .double, .double, .long, .long, .double, .double, .boolean]
  resolved := Array.replicate 460 none
  statics := none }

def pool8 : Array CpInfo := pool [(1, u "java/lang/Cloneable"), (0, .class_ 1), (0, u "java/lang/Object"), (0, .class_ 3)] 3

/-- java/lang/Cloneable -/
def k8 : Class := { plain "java/lang/Cloneable" (some 0) with
  accessFlags := 1537
  interfaces := #[]
  cf := some (fileOf pool8 2 #[] #[] 1537 4 #[] #[])
  fields := #[]
  methods := #[]
  instanceTypes := #[]
  staticTypes := #[]
  resolved := Array.replicate 8 none
  statics := none }

/-- the primitive byte -/
def k9 : Class := { plain "byte" none with kind := .primitive 'B', accessFlags := 0x411 }
/-- [B -/
def k10 : Class := { plain "[B" (some 0) with kind := .array 9 .byte, interfaces := #[8, 4], accessFlags := 1041 }

def heap : Heap := #[{ cls := 6, slots := #[.ref 1, .ref 2, .ref 3, .null], vm := .statics 6 },
  { cls := 6, slots := #[.null, .int 0, .int 0], vm := .none },
  { cls := 6, slots := #[.null, .int 1, .int 0], vm := .none },
  { cls := 6, slots := #[.null, .int 2, .int 0], vm := .none }]
def classes : Array Class := #[k0, k1, k2, k3, k4, k5, k6, k7, k8, k9, k10]
def interned : List (Array UInt16 × Addr) := []
def slotsUsed : Nat := 13
def theMethod : MethodId := ⟨1, 3⟩
def args0 : Array Value := #[.int 3, .int 2]
def aboutOver (below : List Frame) : State where
  vm := { classes := classes, interned := interned.toArray }
  heap := heap
  slotsUsed := slotsUsed
  threads := #[{ frames := .invoking theMethod args0 :: below }]
def below0 : List Frame := [.native { method := ⟨0, 0⟩, args := #[] }]
def about1 : State := aboutOver below0
def p0 : Program := .bare "" "" ""
def e0 : Env := launch0.env 0 0 0
theorem w_frames : about1.frames = Frame.invoking theMethod args0 :: below0 := rfl
set_option maxRecDepth 65536 in
theorem w_args : argsFit about1.vm theMethod args0 = true := by decide +kernel
set_option maxRecDepth 65536 in
theorem w_heap : heapFits about1 = true := by decide +kernel
set_option maxRecDepth 65536 in
theorem w_runnable : about1.curStatus? = some .runnable := by decide +kernel
set_option maxRecDepth 65536 in
theorem w_alone : about1.alone = true := by decide +kernel
set_option maxRecDepth 65536 in
theorem w_named : about1.methodNamed? x = some theMethod := by decide +kernel
set_option maxRecDepth 65536 in
theorem w_hears : about1.hears theMethod below0 = true := by decide +kernel
set_option maxRecDepth 65536 in
theorem w_ripe : about1.ripe theMethod args0 below0 = true := by decide +kernel
theorem w_running : about1.status = .running := rfl
set_option maxRecDepth 65536 in
theorem w_room : about1.hasRoom e0.platform room_1 = true :=
  launch0.hasRoom_least _ room_1 (by decide +kernel) (by decide +kernel) (by decide +kernel) (by decide +kernel) (by decide +kernel) (by decide +kernel)
theorem allAtoms_all (ts : List Jvm.Cond) (a : Array Jvm.Value) (st : Jvm.State) : (allAtoms ts).before a st = ts.all (fun c => c.before a st) := by
  induction ts with
  | nil => rfl
  | cons c t ih =>
    show (Jvm.Cond.and c (allAtoms t)).before a st = _
    rw [Jvm.Cond.before_and, ih, List.all_cons]
def words1 : List Jvm.Cond := Jvm.Cond.code x code maxLocals ret :: tables_1
/-- a 'code' word, met by the world's own term for the bytes: nothing is compared byte by byte -/
theorem code_word {y : MethodName} {bytes : ByteArray} {mx : Nat} {rt : Option FieldType} {a : Array Value} {s : State} {m : MethodId} {meth : Method} {c : Code} (h1 : s.methodNamed? y = some m) (h2 : s.vm.method? m = some meth) (h3 : meth.code = some c) (h4 : c.code = bytes)
    (h5 : (c.maxLocals == mx && c.exceptionTable.isEmpty && decide (c.maxStack ≤ mostOperands) && decide (meth.sig.returnType = rt) && !meth.locks && decide (parseMethodDescriptor y.desc = some meth.sig)) = true) : (Jvm.Cond.code y bytes mx rt).before a s = true := by
  simp only [Bool.and_eq_true, beq_iff_eq, Bool.not_eq_true', decide_eq_true_eq] at h5
  obtain ⟨⟨⟨⟨⟨g1, g2⟩, g3⟩, g4⟩, g5⟩, g6⟩ := h5
  simp [Cond.before, Cond.holds, Cond.value, h1, h2, h3, h4, g1, g2, g3, g4, g5, g6]
def isCode : Jvm.Cond → Bool
  | .code _ _ _ _ => true
  | _ => false
theorem all_split {L : List Jvm.Cond} {P : Jvm.Cond → Bool} (h1 : L.all (fun c => isCode c || P c) = true) (h2 : ∀ c ∈ L.filter isCode, P c = true) : L.all P = true := by
  refine List.all_eq_true.mpr fun c hc => ?_
  have h := List.all_eq_true.mp h1 c hc
  rcases Bool.eq_false_or_eq_true (isCode c) with hi | hi
  · exact h2 c (List.mem_filter.mpr ⟨hc, hi⟩)
  · simpa [hi] using h
set_option maxRecDepth 65536 in
theorem w_c0 : (Jvm.Cond.code x code maxLocals ret).before args0 about1 = true := code_word (m := ⟨1, 3⟩) (meth := k1m3) (c := k1c3) (by decide +kernel) rfl rfl rfl (by decide +kernel)
set_option maxRecDepth 65536 in
theorem w_c1 : (Jvm.Cond.code ({ cls := "com/example/bindery/bindery/document/arlington/TruthAndPinLaw", name := "truth", desc := "(I)Lcom/example/bindery/bindery/document/arlington/Evaluator$Truth;" } : Jvm.MethodName) method_2_code (1 : Nat) (Option.some (Jvm.ClassFile.FieldType.object "com/example/bindery/bindery/document/arlington/Evaluator$Truth"))).before args0 about1 = true := code_word (m := ⟨1, 1⟩) (meth := k1m1) (c := k1c1) (by decide +kernel) rfl rfl rfl (by decide +kernel)
set_option maxRecDepth 65536 in
theorem w_c2 : (Jvm.Cond.code ({ cls := "com/example/bindery/bindery/document/arlington/Evaluator$Truth", name := "and", desc := "(Lcom/example/bindery/bindery/document/arlington/Evaluator$Truth;)Lcom/example/bindery/bindery/document/arlington/Evaluator$Truth;" } : Jvm.MethodName) prog_81_method_6_code (2 : Nat) (Option.some (Jvm.ClassFile.FieldType.object "com/example/bindery/bindery/document/arlington/Evaluator$Truth"))).before args0 about1 = true := code_word (m := ⟨6, 0⟩) (meth := k6m0) (c := k6c0) (by decide +kernel) rfl rfl rfl (by decide +kernel)
set_option maxRecDepth 65536 in
theorem w_c3 : (Jvm.Cond.code ({ cls := "com/example/bindery/bindery/document/arlington/TruthAndPinLaw", name := "rank", desc := "(Lcom/example/bindery/bindery/document/arlington/Evaluator$Truth;)I" } : Jvm.MethodName) method_3_code (1 : Nat) (Option.some Jvm.ClassFile.FieldType.int)).before args0 about1 = true := code_word (m := ⟨1, 2⟩) (meth := k1m2) (c := k1c2) (by decide +kernel) rfl rfl rfl (by decide +kernel)
set_option maxRecDepth 65536 in
theorem w_c4 : (Jvm.Cond.code ({ cls := "java/lang/Math", name := "min", desc := "(II)I" } : Jvm.MethodName) jdk_29_method_69_code (2 : Nat) (Option.some Jvm.ClassFile.FieldType.int)).before args0 about1 = true := code_word (m := ⟨7, 1⟩) (meth := k7m1) (c := k7c1) (by decide +kernel) rfl rfl rfl (by decide +kernel)
def codes1 : List Jvm.Cond := [Jvm.Cond.code x code maxLocals ret, Jvm.Cond.code ({ cls := "com/example/bindery/bindery/document/arlington/TruthAndPinLaw", name := "truth", desc := "(I)Lcom/example/bindery/bindery/document/arlington/Evaluator$Truth;" } : Jvm.MethodName) method_2_code (1 : Nat) (Option.some (Jvm.ClassFile.FieldType.object "com/example/bindery/bindery/document/arlington/Evaluator$Truth")), Jvm.Cond.code ({ cls := "com/example/bindery/bindery/document/arlington/Evaluator$Truth", name := "and", desc := "(Lcom/example/bindery/bindery/document/arlington/Evaluator$Truth;)Lcom/example/bindery/bindery/document/arlington/Evaluator$Truth;" } : Jvm.MethodName) prog_81_method_6_code (2 : Nat) (Option.some (Jvm.ClassFile.FieldType.object "com/example/bindery/bindery/document/arlington/Evaluator$Truth")), Jvm.Cond.code ({ cls := "com/example/bindery/bindery/document/arlington/TruthAndPinLaw", name := "rank", desc := "(Lcom/example/bindery/bindery/document/arlington/Evaluator$Truth;)I" } : Jvm.MethodName) method_3_code (1 : Nat) (Option.some Jvm.ClassFile.FieldType.int), Jvm.Cond.code ({ cls := "java/lang/Math", name := "min", desc := "(II)I" } : Jvm.MethodName) jdk_29_method_69_code (2 : Nat) (Option.some Jvm.ClassFile.FieldType.int)]
set_option maxRecDepth 65536 in
theorem codes_eq : words1.filter isCode = codes1 := rfl
theorem w_codes : ∀ c ∈ words1.filter isCode, c.before args0 about1 = true := by
  rw [codes_eq]
  intro c hc
  simp only [codes1, List.mem_cons, List.not_mem_nil, or_false] at hc
  rcases hc with rfl | rfl | rfl | rfl | rfl
  · exact w_c0
  · exact w_c1
  · exact w_c2
  · exact w_c3
  · exact w_c4
set_option maxRecDepth 65536 in
theorem w_t1 : (words1.take 24).all (fun c => isCode c || c.before args0 about1) = true := by decide +kernel
set_option maxRecDepth 65536 in
theorem w_t2 : (words1.drop 24).all (fun c => isCode c || c.before args0 about1) = true := by decide +kernel
theorem w_tables : (allAtoms (Jvm.Cond.code x code maxLocals ret :: tables_1)).before args0 about1 = true := by
  rw [allAtoms_all]
  show words1.all (fun c => c.before args0 about1) = true
  refine all_split ?_ w_codes
  rw [← List.take_append_drop 24 words1, List.all_append, w_t1, w_t2]
  rfl
set_option maxRecDepth 65536 in
theorem w_case : (Jvm.Cond.and given_1 narrow_1).before args0 about1 = true := by decide +kernel
theorem w_applies : (headSpec (Jvm.Cond.code x code maxLocals ret :: tables_1) room_1).applies x e0.platform about1 = true :=
  (Spec.applies_iff w_frames).mpr ⟨w_running, w_runnable, w_alone, w_named, w_hears, w_ripe, w_room, w_tables⟩
theorem atStart : AtStart classFile x code maxLocals ret World_1 tables_1 room_1 Calls_1 rest_1 Pre_1 launch0 p0 e0 about1 theMethod args0 below0 :=
  ⟨lists_1, trivial, launch0.admits_env _ _ _, launch0.least_env, fairChoices_fair.cas, fairChoices_fair.clock, w_frames, w_args, w_heap, w_applies, trivial, trivial, w_case⟩
end start1
theorem witness_1 : WitnessClaimed_1 := ⟨start1.p0, start1.e0, start1.about1, start1.theMethod, start1.args0, start1.below0, start1.atStart⟩
end Jvm.Pilot.@@N@@
