import JvmDerived
import JvmDerived.Pilot.@@N@@Statement
import JvmDerived.Pilot.@@N@@Code
set_option linter.unusedVariables false
set_option linter.unusedSimpArgs false
namespace Jvm.RoadKit
open Sem ClassFile Op Lib Jvm.Stand Jvm.Free Jvm.LawKit
section New
variable {p : Program} {l : Launch} {e : Env} {R : Room} {s : State} {m : MethodId} {args : Array Value} {below : List Frame} {meth : Method} {c : Code} {T : State} {locs : List Loc} {cells slots : Nat}
theorem retI (X : Stand p l e R s m args below meth c T locs cells slots) (hx : p.tables.exec = Jvm.exec) {pc : Nat} {Ls : Array Slot} {z : Int32} {rest : List Value} (hret : meth.sig.returnType = some .int) (hd : decode c.code pc = .ok (.ireturn, 1)) {fs : List Frame}
    (hl : ∀ (f : JFrame) (acts : List Action), f.method = m → f.locked = none → f.entered = [] → (doReturn e (T.setTop f) acts (some (.int z))).1 = T.setFrames fs) : Steps p.tables e below (T.setTop (mkF m pc Ls (.int z :: rest))) (T.setFrames fs) := by
  have hm' : T.vm.method? m = some meth := X.method'
  have hn : narrow .int (.int z) = .int z := rfl
  show Steps p.tables e below (T.setTop { method := m, pc := pc, locals := Ls, stack := _ :: rest, locked := none }) _
  jvm_step X.here [X.here.top, hx, hd, hm', hret, hn]
  first | (intro acts; rw [hl _ acts rfl rfl rfl]) | rw [hl _ _ rfl rfl rfl]
  exact Steps.refl _
end New
end Jvm.RoadKit
namespace Jvm.Pilot.@@N@@
open Jvm Jvm.ClassFile Sem Op Lib Jvm.Free Jvm.Stand Jvm.LawKit Jvm.RoadKit Bundle Jvm.Pilot.@@N@@.Jvm.D
theorem own_ktrans {h h1 h2 : Heap} {ws : List Addr} (A : Keep h h1 ws) (B : Keep h1 h2 ws) : Keep h h2 ws := ⟨Nat.le_trans A.1 B.1, fun x c q r => B.2.1 x c (A.2.1 x c q r) r, fun x c q => by
  obtain ⟨c1, q1, r1, r2, r3⟩ := A.2.2 x c q
  obtain ⟨c2, q2, s1, s2, s3⟩ := B.2.2 x c1 q1
  exact ⟨c2, q2, s1.trans r1, s2.trans r2, s3.trans r3⟩⟩
theorem d6_0 : decode jdk_29_method_70_code 0 = .ok (.lload_n 0, 1) := by decide +kernel
theorem d6_1 : decode jdk_29_method_70_code 1 = .ok (.lload_n 2, 1) := by decide +kernel
theorem d6_2 : decode jdk_29_method_70_code 2 = .ok (.lcmp, 1) := by decide +kernel
theorem d6_3 : decode jdk_29_method_70_code 3 = .ok (.ifCond .gt 7, 3) := by decide +kernel
theorem d6_6 : decode jdk_29_method_70_code 6 = .ok (.lload_n 0, 1) := by decide +kernel
theorem d6_7 : decode jdk_29_method_70_code 7 = .ok (.goto 4, 3) := by decide +kernel
theorem d6_10 : decode jdk_29_method_70_code 10 = .ok (.lload_n 2, 1) := by decide +kernel
theorem d6_11 : decode jdk_29_method_70_code 11 = .ok (.lreturn, 1) := by decide +kernel
theorem ef_6 (m : MethodId) (x0 : Int64) (x1 : Int64) : entryFrame m #[(.long x0), (.long x1)] 4 = mkF m 0 #[.val (.long x0), .second, .val (.long x1), .second] [] := by first | (simp [entryFrame, mkF, argsToLocals, Value.category]; done) | rfl
def F6 (q1 : Int64) (q2 : Int64) : Int64 := (if q2 < q1 then q2 else q1)
def Q6 (Z : State) (q1 : Int64) (q2 : Int64) (h0 : Heap) (n0 : Nat) (v : Option Value) (h : Heap) (L : List Loc) : Prop := v = some (.long (F6 q1 q2)) ∧ Fr n0 L ∧ h = h0
set_option maxRecDepth 65536 in
set_option maxHeartbeats 40000000 in
theorem rm6 (l : Launch) (Z : State) (a0 : Array Value) (hw : ∀ d ∈ tables_1, d.before a0 Z = true) (ws : List Jvm.Cond) (q1 : Int64) (q2 : Int64) (h0 : Heap) (n0 : Nat) (Z0 : n0 ≤ h0.size) :
    MetFree l (⟨"java/lang/Math", "min", "(JJ)J"⟩ : MethodName) (head1 (Jvm.Cond.code (⟨"java/lang/Math", "min", "(JJ)J"⟩ : MethodName) jdk_29_method_70_code 4 (some .long) :: ws) ({ frames := 0, cells := 0, slots := 0, locals := 0 } : Room)) (fun a U => a = #[(.long q1), (.long q2)] ∧ Z.Warmed39 U.vm ∧ U.heap = h0) (fun _ _ _ _ _ => True) (fun _ U o U' => ∃ v L, o = .returned v ∧ Q6 Z q1 q2 h0 n0 v U'.heap L ∧ FrameEnd U o U' L ({ frames := 0, cells := 0, slots := 0, locals := 0 } : Room).cells ({ frames := 0, cells := 0, slots := 0, locals := 0 } : Room).slots) := by
  refine MetFree.of_bodySF (Jvm.Free.JP.mathPlain rfl (by decide +kernel)) hisR ?_
  intro p e s m args below meth c s₁ Bd hml0 hP hK
  obtain ⟨rfl, hZ, hh⟩ := hP
  have hx := Bd.exec
  have hby := Bd.bytes
  have hml : c.maxLocals = 4 := hml0
  have hown : s.vm.findClass "java/lang/Math" = some m.cls := findClass_of_methodNamed Bd.named
  have hnm := (name_of_methodNamed Bd.named Bd.method).1
  have X0 : Stand p l e ({ frames := 0, cells := 0, slots := 0, locals := 0 } : Room) s m #[(.long q1), (.long q2)] below meth c s₁ [] 0 0 := Stand.of_body Bd
  have e0 : s₁.heap = h0 := by rw [← hh, Bd.state]; rfl
  have N0 := Fr.nil n0
  have pre0 : ∀ t, Steps p.tables e below (s₁.setTop (mkF m 0 #[.val (.long q1), .second, .val (.long q2), .second] [])) t → Steps p.tables e below (s₁.setTop (entryFrame m #[(.long q1), (.long q2)] 4)) t := fun t k => castTop (ef_6 m q1 q2) k
  obtain ⟨fs, hr, hrun, hended, hW, hsame⟩ := X0.leave (v := some (.long (if q2 < q1 then q2 else q1))) (fun h => by rw [Bd.returns] at h; cases h)
  refine ⟨_, _, pre0 _ ?_, hrun, hended, _, _, rfl, ?_, ⟨_, rfl⟩, hW, hsame.mono (by decide) (by decide)⟩
  · show Steps p.tables e below (s₁.setTop (mkF m 0 #[.val (.long q1), .second, .val (.long q2), .second] [])) _
    refine XS.lloadN X0.here hx rfl (hb hby d6_0) rfl ?_
    show Steps p.tables e below (s₁.setTop (mkF m 1 #[.val (.long q1), .second, .val (.long q2), .second] [(.long q1)])) _
    refine XS.lloadN X0.here hx rfl (hb hby d6_1) rfl ?_
    show Steps p.tables e below (s₁.setTop (mkF m 2 #[.val (.long q1), .second, .val (.long q2), .second] [(.long q2), (.long q1)])) _
    refine XS.lcmp X0.here hx rfl (hb hby d6_2) rfl ?_
    show Steps p.tables e below (s₁.setTop (mkF m 3 #[.val (.long q1), .second, .val (.long q2), .second] [(.int (lcmpW q1 q2))])) _
    by_cases hc3_1 : q2 < q1
    · refine XS.ifYes X0.here hx rfl (pc0 := 3) (pc' := 10) rfl (hb hby d6_3) rfl ((if0 _ _).trans (tlt ((lw_gt q1 q2).mpr hc3_1)).2.2.1) (by decide) (by decide) ?_
      show Steps p.tables e below (s₁.setTop (mkF m 10 #[.val (.long q1), .second, .val (.long q2), .second] [])) _
      refine XS.lloadN X0.here hx rfl (hb hby d6_10) rfl ?_
      show Steps p.tables e below (s₁.setTop (mkF m 11 #[.val (.long q1), .second, .val (.long q2), .second] [(.long q2)])) _
      rw [if_pos hc3_1] at hr
      exact X0.lreturnOut hx Bd.returns (hb hby d6_11) hr
    · refine XS.ifNo X0.here hx rfl (hb hby d6_3) rfl ((if0 _ _).trans (flt (mt (lw_gt q1 q2).mp hc3_1)).2.2.1) ?_
      show Steps p.tables e below (s₁.setTop (mkF m 6 #[.val (.long q1), .second, .val (.long q2), .second] [])) _
      refine XS.lloadN X0.here hx rfl (hb hby d6_6) rfl ?_
      show Steps p.tables e below (s₁.setTop (mkF m 7 #[.val (.long q1), .second, .val (.long q2), .second] [(.long q1)])) _
      refine XS.goto X0.here hx rfl (pc0 := 7) (pc' := 11) rfl (hb hby d6_7) (by decide) (by decide) ?_
      show Steps p.tables e below (s₁.setTop (mkF m 11 #[.val (.long q1), .second, .val (.long q2), .second] [(.long q1)])) _
      rw [if_neg hc3_1] at hr
      exact X0.lreturnOut hx Bd.returns (hb hby d6_11) hr
  · show Q6 Z q1 q2 h0 n0 _ s₁.heap _
    rw [e0]
    exact ⟨congrArg (fun z => some (Value.long z)) (show F6 q1 q2 = (if q2 < q1 then q2 else q1) by rw [F6]).symm, N0, rfl⟩
theorem d7_0 : decode method_2_code 0 = .ok (.iload_n 0, 1) := by decide +kernel
theorem d7_1 : decode method_2_code 1 = .ok (.ifCond .ne 7, 3) := by decide +kernel
theorem d7_4 : decode method_2_code 4 = .ok (.ldc2_w 7, 3) := by decide +kernel
theorem d7_7 : decode method_2_code 7 = .ok (.lreturn, 1) := by decide +kernel
theorem d7_8 : decode method_2_code 8 = .ok (.iload_n 0, 1) := by decide +kernel
theorem d7_9 : decode method_2_code 9 = .ok (.iconst 1, 1) := by decide +kernel
theorem d7_10 : decode method_2_code 10 = .ok (.if_icmp .ne 7, 3) := by decide +kernel
theorem d7_13 : decode method_2_code 13 = .ok (.ldc2_w 9, 3) := by decide +kernel
theorem d7_16 : decode method_2_code 16 = .ok (.lreturn, 1) := by decide +kernel
theorem d7_17 : decode method_2_code 17 = .ok (.iload_n 0, 1) := by decide +kernel
theorem d7_18 : decode method_2_code 18 = .ok (.iconst 2, 1) := by decide +kernel
theorem d7_19 : decode method_2_code 19 = .ok (.if_icmp .ne 7, 3) := by decide +kernel
theorem d7_22 : decode method_2_code 22 = .ok (.ldc2_w 11, 3) := by decide +kernel
theorem d7_25 : decode method_2_code 25 = .ok (.lreturn, 1) := by decide +kernel
theorem d7_26 : decode method_2_code 26 = .ok (.iload_n 0, 1) := by decide +kernel
theorem d7_27 : decode method_2_code 27 = .ok (.iconst 3, 1) := by decide +kernel
theorem d7_28 : decode method_2_code 28 = .ok (.if_icmp .ne 7, 3) := by decide +kernel
theorem d7_31 : decode method_2_code 31 = .ok (.ldc2_w 13, 3) := by decide +kernel
theorem d7_34 : decode method_2_code 34 = .ok (.lreturn, 1) := by decide +kernel
theorem d7_35 : decode method_2_code 35 = .ok (.ldc2_w 15, 3) := by decide +kernel
theorem d7_38 : decode method_2_code 38 = .ok (.lreturn, 1) := by decide +kernel
theorem pn_7 : plainName "com/example/holdfast/holdfast/BackoffNextMillisPinLaw" = true := by first | (simp [plainName, overriddenIn]; done) | decide +kernel
theorem ef_7 (m : MethodId) (x0 : Int32) : entryFrame m #[(.int x0)] 1 = mkF m 0 #[.val (.int x0)] [] := by first | (simp [entryFrame, mkF, argsToLocals, Value.category]; done) | rfl
def F7 (p1 : Int32) : Int64 := (if p1 = (0 : Int32) then (100 : Int64) else (if p1 = (1 : Int32) then (200 : Int64) else (if p1 = (2 : Int32) then (400 : Int64) else (if p1 = (3 : Int32) then (800 : Int64) else (1000 : Int64)))))
def Q7 (Z : State) (p1 : Int32) (h0 : Heap) (n0 : Nat) (v : Option Value) (h : Heap) (L : List Loc) : Prop := v = some (.long (F7 p1)) ∧ Fr n0 L ∧ h = h0
set_option maxRecDepth 65536 in
set_option maxHeartbeats 40000000 in
theorem rm7 (l : Launch) (Z : State) (a0 : Array Value) (hw : ∀ d ∈ tables_1, d.before a0 Z = true) (ws : List Jvm.Cond) (p1 : Int32) (h0 : Heap) (n0 : Nat) (Z0 : n0 ≤ h0.size) :
    MetFree l (⟨"com/example/holdfast/holdfast/BackoffNextMillisPinLaw", "expected", "(I)J"⟩ : MethodName) (head1 (Jvm.Cond.code (⟨"com/example/holdfast/holdfast/BackoffNextMillisPinLaw", "expected", "(I)J"⟩ : MethodName) method_2_code 1 (some .long) :: ws) ({ frames := 0, cells := 0, slots := 0, locals := 0 } : Room)) (fun a U => a = #[(.int p1)] ∧ Z.Warmed39 U.vm ∧ U.heap = h0) (fun _ _ _ _ _ => True) (fun _ U o U' => ∃ v L, o = .returned v ∧ Q7 Z p1 h0 n0 v U'.heap L ∧ FrameEnd U o U' L ({ frames := 0, cells := 0, slots := 0, locals := 0 } : Room).cells ({ frames := 0, cells := 0, slots := 0, locals := 0 } : Room).slots) := by
  refine MetFree.of_bodySF (plainFor_of_name pn_7) hisR ?_
  intro p e s m args below meth c s₁ Bd hml0 hP hK
  obtain ⟨rfl, hZ, hh⟩ := hP
  have hx := Bd.exec
  have hby := Bd.bytes
  have hml : c.maxLocals = 1 := hml0
  have hown : s.vm.findClass "com/example/holdfast/holdfast/BackoffNextMillisPinLaw" = some m.cls := findClass_of_methodNamed Bd.named
  have hnm := (name_of_methodNamed Bd.named Bd.method).1
  have X0 : Stand p l e ({ frames := 0, cells := 0, slots := 0, locals := 0 } : Room) s m #[(.int p1)] below meth c s₁ [] 0 0 := Stand.of_body Bd
  have e0 : s₁.heap = h0 := by rw [← hh, Bd.state]; rfl
  have N0 := Fr.nil n0
  have pre0 : ∀ t, Steps p.tables e below (s₁.setTop (mkF m 0 #[.val (.int p1)] [])) t → Steps p.tables e below (s₁.setTop (entryFrame m #[(.int p1)] 1)) t := fun t k => castTop (ef_7 m p1) k
  obtain ⟨fs, hr, hrun, hended, hW, hsame⟩ := X0.leave (v := some (.long (if p1 = (0 : Int32) then (100 : Int64) else (if p1 = (1 : Int32) then (200 : Int64) else (if p1 = (2 : Int32) then (400 : Int64) else (if p1 = (3 : Int32) then (800 : Int64) else (1000 : Int64))))))) (fun h => by rw [Bd.returns] at h; cases h)
  refine ⟨_, _, pre0 _ ?_, hrun, hended, _, _, rfl, ?_, ⟨_, rfl⟩, hW, hsame.mono (by decide) (by decide)⟩
  · show Steps p.tables e below (s₁.setTop (mkF m 0 #[.val (.int p1)] [])) _
    refine XS.iloadN X0.here hx rfl (hb hby d7_0) rfl ?_
    show Steps p.tables e below (s₁.setTop (mkF m 1 #[.val (.int p1)] [(.int p1)])) _
    by_cases hc1_1 : p1 = (0 : Int32)
    · refine XS.ifNo X0.here hx rfl (hb hby d7_1) rfl ((if0 _ _).trans (teq hc1_1).2) ?_
      show Steps p.tables e below (s₁.setTop (mkF m 4 #[.val (.int p1)] [])) _
      refine X0.ldc2Long hx hown (mvT hZ (hw _ (List.mem_of_getElem? (i := 35) rfl))) (g := (mkF m 4 #[.val (.int p1)] [])) rfl (hb hby d7_4) _ ?_
      show Steps p.tables e below (s₁.setTop (mkF m 7 #[.val (.int p1)] [(.long (100 : Int64))])) _
      rw [if_pos hc1_1] at hr
      exact X0.lreturnOut hx Bd.returns (hb hby d7_7) hr
    · refine XS.ifYes X0.here hx rfl (pc0 := 1) (pc' := 8) rfl (hb hby d7_1) rfl ((if0 _ _).trans (feq hc1_1).2) (by decide) (by decide) ?_
      show Steps p.tables e below (s₁.setTop (mkF m 8 #[.val (.int p1)] [])) _
      refine XS.iloadN X0.here hx rfl (hb hby d7_8) rfl ?_
      show Steps p.tables e below (s₁.setTop (mkF m 9 #[.val (.int p1)] [(.int p1)])) _
      refine XS.iconst X0.here hx rfl (hb hby d7_9) ?_
      show Steps p.tables e below (s₁.setTop (mkF m 10 #[.val (.int p1)] [(.int (1 : Int32)), (.int p1)])) _
      by_cases hc10_2 : p1 = (1 : Int32)
      · refine XS.icmpNo X0.here hx rfl (hb hby d7_10) rfl (teq hc10_2).2 ?_
        show Steps p.tables e below (s₁.setTop (mkF m 13 #[.val (.int p1)] [])) _
        refine X0.ldc2Long hx hown (mvT hZ (hw _ (List.mem_of_getElem? (i := 36) rfl))) (g := (mkF m 13 #[.val (.int p1)] [])) rfl (hb hby d7_13) _ ?_
        show Steps p.tables e below (s₁.setTop (mkF m 16 #[.val (.int p1)] [(.long (200 : Int64))])) _
        rw [if_neg hc1_1, if_pos hc10_2] at hr
        exact X0.lreturnOut hx Bd.returns (hb hby d7_16) hr
      · refine XS.icmpYes X0.here hx rfl (pc0 := 10) (pc' := 17) rfl (hb hby d7_10) rfl (feq hc10_2).2 (by decide) (by decide) ?_
        show Steps p.tables e below (s₁.setTop (mkF m 17 #[.val (.int p1)] [])) _
        refine XS.iloadN X0.here hx rfl (hb hby d7_17) rfl ?_
        show Steps p.tables e below (s₁.setTop (mkF m 18 #[.val (.int p1)] [(.int p1)])) _
        refine XS.iconst X0.here hx rfl (hb hby d7_18) ?_
        show Steps p.tables e below (s₁.setTop (mkF m 19 #[.val (.int p1)] [(.int (2 : Int32)), (.int p1)])) _
        by_cases hc19_3 : p1 = (2 : Int32)
        · refine XS.icmpNo X0.here hx rfl (hb hby d7_19) rfl (teq hc19_3).2 ?_
          show Steps p.tables e below (s₁.setTop (mkF m 22 #[.val (.int p1)] [])) _
          refine X0.ldc2Long hx hown (mvT hZ (hw _ (List.mem_of_getElem? (i := 37) rfl))) (g := (mkF m 22 #[.val (.int p1)] [])) rfl (hb hby d7_22) _ ?_
          show Steps p.tables e below (s₁.setTop (mkF m 25 #[.val (.int p1)] [(.long (400 : Int64))])) _
          rw [if_neg hc1_1, if_neg hc10_2, if_pos hc19_3] at hr
          exact X0.lreturnOut hx Bd.returns (hb hby d7_25) hr
        · refine XS.icmpYes X0.here hx rfl (pc0 := 19) (pc' := 26) rfl (hb hby d7_19) rfl (feq hc19_3).2 (by decide) (by decide) ?_
          show Steps p.tables e below (s₁.setTop (mkF m 26 #[.val (.int p1)] [])) _
          refine XS.iloadN X0.here hx rfl (hb hby d7_26) rfl ?_
          show Steps p.tables e below (s₁.setTop (mkF m 27 #[.val (.int p1)] [(.int p1)])) _
          refine XS.iconst X0.here hx rfl (hb hby d7_27) ?_
          show Steps p.tables e below (s₁.setTop (mkF m 28 #[.val (.int p1)] [(.int (3 : Int32)), (.int p1)])) _
          by_cases hc28_4 : p1 = (3 : Int32)
          · refine XS.icmpNo X0.here hx rfl (hb hby d7_28) rfl (teq hc28_4).2 ?_
            show Steps p.tables e below (s₁.setTop (mkF m 31 #[.val (.int p1)] [])) _
            refine X0.ldc2Long hx hown (mvT hZ (hw _ (List.mem_of_getElem? (i := 38) rfl))) (g := (mkF m 31 #[.val (.int p1)] [])) rfl (hb hby d7_31) _ ?_
            show Steps p.tables e below (s₁.setTop (mkF m 34 #[.val (.int p1)] [(.long (800 : Int64))])) _
            rw [if_neg hc1_1, if_neg hc10_2, if_neg hc19_3, if_pos hc28_4] at hr
            exact X0.lreturnOut hx Bd.returns (hb hby d7_34) hr
          · refine XS.icmpYes X0.here hx rfl (pc0 := 28) (pc' := 35) rfl (hb hby d7_28) rfl (feq hc28_4).2 (by decide) (by decide) ?_
            show Steps p.tables e below (s₁.setTop (mkF m 35 #[.val (.int p1)] [])) _
            refine X0.ldc2Long hx hown (mvT hZ (hw _ (List.mem_of_getElem? (i := 39) rfl))) (g := (mkF m 35 #[.val (.int p1)] [])) rfl (hb hby d7_35) _ ?_
            show Steps p.tables e below (s₁.setTop (mkF m 38 #[.val (.int p1)] [(.long (1000 : Int64))])) _
            rw [if_neg hc1_1, if_neg hc10_2, if_neg hc19_3, if_neg hc28_4] at hr
            exact X0.lreturnOut hx Bd.returns (hb hby d7_38) hr
  · show Q7 Z p1 h0 n0 _ s₁.heap _
    rw [e0]
    exact ⟨congrArg (fun z => some (Value.long z)) (show F7 p1 = (if p1 = (0 : Int32) then (100 : Int64) else (if p1 = (1 : Int32) then (200 : Int64) else (if p1 = (2 : Int32) then (400 : Int64) else (if p1 = (3 : Int32) then (800 : Int64) else (1000 : Int64))))) by rw [F7]).symm, N0, rfl⟩
theorem d1_0 : decode prog_1_method_1_code 0 = .ok (.aload_n 0, 1) := by decide +kernel
theorem d1_1 : decode prog_1_method_1_code 1 = .ok (.invokespecial 1, 3) := by decide +kernel
theorem d1_4 : decode prog_1_method_1_code 4 = .ok (.aload_n 0, 1) := by decide +kernel
theorem d1_5 : decode prog_1_method_1_code 5 = .ok (.ldc2_w 9, 3) := by decide +kernel
theorem d1_8 : decode prog_1_method_1_code 8 = .ok (.putfield 11, 3) := by decide +kernel
theorem d1_11 : decode prog_1_method_1_code 11 = .ok (.return_, 1) := by decide +kernel
theorem pn_1 : plainName "com/example/holdfast/holdfast/Backoff" = true := by first | (simp [plainName, overriddenIn]; done) | decide +kernel
theorem ef_1 (m : MethodId) (x0 : Addr) : entryFrame m #[(.ref x0)] 1 = mkF m 0 #[.val (.ref x0)] [] := by first | (simp [entryFrame, mkF, argsToLocals, Value.category]; done) | rfl
def Q1 (Z : State) (a1 : Addr) (u1 : Value) (h0 : Heap) (n0 : Nat) (v : Option Value) (h : Heap) (L : List Loc) : Prop := v = none ∧ Fr n0 L ∧ Keep h0 h [a1] ∧ Fld Z h a1 "com/example/holdfast/holdfast/Backoff" "nextMillis" "J" (.long (100 : Int64))
set_option maxRecDepth 65536 in
set_option maxHeartbeats 40000000 in
theorem rm1 (l : Launch) (Z : State) (a0 : Array Value) (hw : ∀ d ∈ tables_1, d.before a0 Z = true) (ws : List Jvm.Cond) (a1 : Addr) (u1 : Value) (h0 : Heap) (n0 : Nat) (Z0 : n0 ≤ h0.size) (E_a1 : Exa Z h0 a1 "com/example/holdfast/holdfast/Backoff") (Fn : Fld Z h0 a1 "com/example/holdfast/holdfast/Backoff" "nextMillis" "J" u1) (g_a1 : n0 ≤ a1) :
    MetFree l (⟨"com/example/holdfast/holdfast/Backoff", "<init>", "()V"⟩ : MethodName) (head1 (Jvm.Cond.code (⟨"com/example/holdfast/holdfast/Backoff", "<init>", "()V"⟩ : MethodName) prog_1_method_1_code 1 none :: ws) ({ frames := 1, cells := 0, slots := 0, locals := 12 } : Room)) (fun a U => a = #[(.ref a1)] ∧ Z.Warmed39 U.vm ∧ U.heap = h0) (fun _ _ _ _ _ => True) (fun _ U o U' => ∃ v L, o = .returned v ∧ Q1 Z a1 u1 h0 n0 v U'.heap L ∧ FrameEnd U o U' L ({ frames := 1, cells := 0, slots := 0, locals := 12 } : Room).cells ({ frames := 1, cells := 0, slots := 0, locals := 12 } : Room).slots) := by
  refine MetFree.of_bodySF (plainFor_of_name pn_1) hisR ?_
  intro p e s m args below meth c s₁ Bd hml0 hP hK
  obtain ⟨rfl, hZ, hh⟩ := hP
  have hx := Bd.exec
  have hby := Bd.bytes
  have hml : c.maxLocals = 1 := hml0
  have hown : s.vm.findClass "com/example/holdfast/holdfast/Backoff" = some m.cls := findClass_of_methodNamed Bd.named
  have hnm := (name_of_methodNamed Bd.named Bd.method).1
  have X0 : Stand p l e ({ frames := 1, cells := 0, slots := 0, locals := 12 } : Room) s m #[(.ref a1)] below meth c s₁ [] 0 0 := Stand.of_body Bd
  have e0 : s₁.heap = h0 := by rw [← hh, Bd.state]; rfl
  have N0 := Fr.nil n0
  have pre0 : ∀ t, Steps p.tables e below (s₁.setTop (mkF m 0 #[.val (.ref a1)] [])) t → Steps p.tables e below (s₁.setTop (entryFrame m #[(.ref a1)] 1)) t := fun t k => castTop (ef_1 m a1) k
  obtain ⟨T1, X1, e1, st1⟩ := initO X0 hx hZ hown (hw _ (List.mem_of_getElem? (i := 6) rfl)) (hw _ (List.mem_of_getElem? (i := 7) rfl)) (hw _ (List.mem_of_getElem? (i := 8) rfl)) e0 (g := (mkF m 1 #[.val (.ref a1)] [(.ref a1)])) rfl (by rw [hml]; rfl) rfl (hb hby d1_1) (by decide) (W := 0) (by show 2 * 0 + _ ≤ _; exact Nat.le_of_eq rfl) (by decide)
  obtain ⟨T2, h2, X2, e2, W2, st2⟩ := putF X1 hx hZ hown (host := "") (Or.inl (hw _ (List.mem_of_getElem? (i := 10) rfl))) Via.refl e1 Fn E_a1 (Or.inl (hw _ (List.mem_of_getElem? (i := 11) rfl))) (hw _ (List.mem_of_getElem? (i := 1) rfl)) (ty := .long) (by decide) rfl rfl (g := (mkF m 8 #[.val (.ref a1)] [(.long (100 : Int64)), (.ref a1)])) rfl rfl (hb hby d1_8)
  have Fw2 := Fn.same W2
  have N2 := Fr.snoc X2 N0 g_a1
  have K2 := (Keep.refl h0 [a1]).wr W2 (Or.inl (List.mem_of_getElem? (i := 0) rfl))
  have c2_1 := E_a1.wr W2
  have Z2 := Nat.le_trans Z0 (Keep.of_wr W2).1
  obtain ⟨fs, hr, hrun, hended, hW, hsame⟩ := X2.leave (v := none) (fun _ => rfl)
  refine ⟨_, _, pre0 _ ?_, hrun, hended, _, _, rfl, ?_, ⟨_, rfl⟩, hW, hsame.mono (by decide) (by decide)⟩
  · show Steps p.tables e below (s₁.setTop (mkF m 0 #[.val (.ref a1)] [])) _
    refine XS.aloadN X0.here hx rfl (hb hby d1_0) rfl rfl ?_
    show Steps p.tables e below (s₁.setTop (mkF m 1 #[.val (.ref a1)] [(.ref a1)])) _
    refine st1 _ ?_
    show Steps p.tables e below (T1.setTop (mkF m 4 #[.val (.ref a1)] [])) _
    refine XS.aloadN X1.here hx rfl (hb hby d1_4) rfl rfl ?_
    show Steps p.tables e below (T1.setTop (mkF m 5 #[.val (.ref a1)] [(.ref a1)])) _
    refine X1.ldc2Long hx hown (mvT hZ (hw _ (List.mem_of_getElem? (i := 9) rfl))) (g := (mkF m 5 #[.val (.ref a1)] [(.ref a1)])) rfl (hb hby d1_5) _ ?_
    show Steps p.tables e below (T1.setTop (mkF m 8 #[.val (.ref a1)] [(.long (100 : Int64)), (.ref a1)])) _
    refine st2 _ ?_
    show Steps p.tables e below (T2.setTop (mkF m 11 #[.val (.ref a1)] [])) _
    exact X2.returnOut hx Bd.returns (hb hby d1_11) hr
  · show Q1 Z a1 u1 h0 n0 _ T2.heap _
    rw [e2]
    exact ⟨rfl, N2, K2, Fw2⟩
theorem d4_0 : decode prog_1_method_3_code 0 = .ok (.aload_n 0, 1) := by decide +kernel
theorem d4_1 : decode prog_1_method_3_code 1 = .ok (.ldc2_w 9, 3) := by decide +kernel
theorem d4_4 : decode prog_1_method_3_code 4 = .ok (.putfield 11, 3) := by decide +kernel
theorem d4_7 : decode prog_1_method_3_code 7 = .ok (.return_, 1) := by decide +kernel
theorem ef_4 (m : MethodId) (x0 : Addr) : entryFrame m #[(.ref x0)] 1 = mkF m 0 #[.val (.ref x0)] [] := by first | (simp [entryFrame, mkF, argsToLocals, Value.category]; done) | rfl
def Q4 (Z : State) (a1 : Addr) (u1 : Value) (h0 : Heap) (n0 : Nat) (v : Option Value) (h : Heap) (L : List Loc) : Prop := v = none ∧ Fr n0 L ∧ Keep h0 h [a1] ∧ Fld Z h a1 "com/example/holdfast/holdfast/Backoff" "nextMillis" "J" (.long (100 : Int64))
set_option maxRecDepth 65536 in
set_option maxHeartbeats 40000000 in
theorem rm4 (l : Launch) (Z : State) (a0 : Array Value) (hw : ∀ d ∈ tables_1, d.before a0 Z = true) (ws : List Jvm.Cond) (a1 : Addr) (u1 : Value) (h0 : Heap) (n0 : Nat) (Z0 : n0 ≤ h0.size) (E_a1 : Exa Z h0 a1 "com/example/holdfast/holdfast/Backoff") (Fn : Fld Z h0 a1 "com/example/holdfast/holdfast/Backoff" "nextMillis" "J" u1) (g_a1 : n0 ≤ a1) :
    MetFree l (⟨"com/example/holdfast/holdfast/Backoff", "reset", "()V"⟩ : MethodName) (head1 (Jvm.Cond.code (⟨"com/example/holdfast/holdfast/Backoff", "reset", "()V"⟩ : MethodName) prog_1_method_3_code 1 none :: ws) ({ frames := 0, cells := 0, slots := 0, locals := 0 } : Room)) (fun a U => a = #[(.ref a1)] ∧ Z.Warmed39 U.vm ∧ U.heap = h0) (fun _ _ _ _ _ => True) (fun _ U o U' => ∃ v L, o = .returned v ∧ Q4 Z a1 u1 h0 n0 v U'.heap L ∧ FrameEnd U o U' L ({ frames := 0, cells := 0, slots := 0, locals := 0 } : Room).cells ({ frames := 0, cells := 0, slots := 0, locals := 0 } : Room).slots) := by
  refine MetFree.of_bodySF (plainFor_of_name pn_1) hisR ?_
  intro p e s m args below meth c s₁ Bd hml0 hP hK
  obtain ⟨rfl, hZ, hh⟩ := hP
  have hx := Bd.exec
  have hby := Bd.bytes
  have hml : c.maxLocals = 1 := hml0
  have hown : s.vm.findClass "com/example/holdfast/holdfast/Backoff" = some m.cls := findClass_of_methodNamed Bd.named
  have hnm := (name_of_methodNamed Bd.named Bd.method).1
  have X0 : Stand p l e ({ frames := 0, cells := 0, slots := 0, locals := 0 } : Room) s m #[(.ref a1)] below meth c s₁ [] 0 0 := Stand.of_body Bd
  have e0 : s₁.heap = h0 := by rw [← hh, Bd.state]; rfl
  have N0 := Fr.nil n0
  have pre0 : ∀ t, Steps p.tables e below (s₁.setTop (mkF m 0 #[.val (.ref a1)] [])) t → Steps p.tables e below (s₁.setTop (entryFrame m #[(.ref a1)] 1)) t := fun t k => castTop (ef_4 m a1) k
  obtain ⟨T1, h1, X1, e1, W1, st1⟩ := putF X0 hx hZ hown (host := "") (Or.inl (hw _ (List.mem_of_getElem? (i := 10) rfl))) Via.refl e0 Fn E_a1 (Or.inl (hw _ (List.mem_of_getElem? (i := 11) rfl))) (hw _ (List.mem_of_getElem? (i := 1) rfl)) (ty := .long) (by decide) rfl rfl (g := (mkF m 4 #[.val (.ref a1)] [(.long (100 : Int64)), (.ref a1)])) rfl rfl (hb hby d4_4)
  have Fw1 := Fn.same W1
  have N1 := Fr.snoc X1 N0 g_a1
  have K1 := (Keep.refl h0 [a1]).wr W1 (Or.inl (List.mem_of_getElem? (i := 0) rfl))
  have c1_1 := E_a1.wr W1
  have Z1 := Nat.le_trans Z0 (Keep.of_wr W1).1
  obtain ⟨fs, hr, hrun, hended, hW, hsame⟩ := X1.leave (v := none) (fun _ => rfl)
  refine ⟨_, _, pre0 _ ?_, hrun, hended, _, _, rfl, ?_, ⟨_, rfl⟩, hW, hsame.mono (by decide) (by decide)⟩
  · show Steps p.tables e below (s₁.setTop (mkF m 0 #[.val (.ref a1)] [])) _
    refine XS.aloadN X0.here hx rfl (hb hby d4_0) rfl rfl ?_
    show Steps p.tables e below (s₁.setTop (mkF m 1 #[.val (.ref a1)] [(.ref a1)])) _
    refine X0.ldc2Long hx hown (mvT hZ (hw _ (List.mem_of_getElem? (i := 9) rfl))) (g := (mkF m 1 #[.val (.ref a1)] [(.ref a1)])) rfl (hb hby d4_1) _ ?_
    show Steps p.tables e below (s₁.setTop (mkF m 4 #[.val (.ref a1)] [(.long (100 : Int64)), (.ref a1)])) _
    refine st1 _ ?_
    show Steps p.tables e below (T1.setTop (mkF m 7 #[.val (.ref a1)] [])) _
    exact X1.returnOut hx Bd.returns (hb hby d4_7) hr
  · show Q4 Z a1 u1 h0 n0 _ T1.heap _
    rw [e1]
    exact ⟨rfl, N1, K1, Fw1⟩
theorem pd_2 : parseMethodDescriptor "(JJ)J" = some ⟨[.long, .long], some .long⟩ := by decide +kernel
theorem d5_0 : decode prog_1_method_2_code 0 = .ok (.aload_n 0, 1) := by decide +kernel
theorem d5_1 : decode prog_1_method_2_code 1 = .ok (.getfield 11, 3) := by decide +kernel
theorem d5_4 : decode prog_1_method_2_code 4 = .ok (.lstore_n 1, 1) := by decide +kernel
theorem d5_5 : decode prog_1_method_2_code 5 = .ok (.aload_n 0, 1) := by decide +kernel
theorem d5_6 : decode prog_1_method_2_code 6 = .ok (.ldc2_w 15, 3) := by decide +kernel
theorem d5_9 : decode prog_1_method_2_code 9 = .ok (.lload_n 1, 1) := by decide +kernel
theorem d5_10 : decode prog_1_method_2_code 10 = .ok (.lmul, 1) := by decide +kernel
theorem d5_11 : decode prog_1_method_2_code 11 = .ok (.ldc2_w 17, 3) := by decide +kernel
theorem d5_14 : decode prog_1_method_2_code 14 = .ok (.invokestatic 19, 3) := by decide +kernel
theorem d5_17 : decode prog_1_method_2_code 17 = .ok (.putfield 11, 3) := by decide +kernel
theorem d5_20 : decode prog_1_method_2_code 20 = .ok (.lload_n 1, 1) := by decide +kernel
theorem d5_21 : decode prog_1_method_2_code 21 = .ok (.lreturn, 1) := by decide +kernel
theorem ef_5 (m : MethodId) (x0 : Addr) : entryFrame m #[(.ref x0)] 3 = mkF m 0 #[.val (.ref x0), .unset, .unset] [] := by first | (simp [entryFrame, mkF, argsToLocals, Value.category]; done) | rfl
def F5 (w1 : Int64) : Int64 := w1
def Q5 (Z : State) (a1 : Addr) (w1 : Int64) (h0 : Heap) (n0 : Nat) (v : Option Value) (h : Heap) (L : List Loc) : Prop := v = some (.long (F5 w1)) ∧ Fr n0 L ∧ Keep h0 h [a1] ∧ Fld Z h a1 "com/example/holdfast/holdfast/Backoff" "nextMillis" "J" (.long (F6 ((2 : Int64) * w1) (1000 : Int64)))
set_option maxRecDepth 65536 in
set_option maxHeartbeats 40000000 in
theorem rm5 (l : Launch) (Z : State) (a0 : Array Value) (hw : ∀ d ∈ tables_1, d.before a0 Z = true) (ws : List Jvm.Cond) (a1 : Addr) (w1 : Int64) (h0 : Heap) (n0 : Nat) (Z0 : n0 ≤ h0.size) (E_a1 : Exa Z h0 a1 "com/example/holdfast/holdfast/Backoff") (Fn : Fld Z h0 a1 "com/example/holdfast/holdfast/Backoff" "nextMillis" "J" (.long w1)) (g_a1 : n0 ≤ a1) :
    MetFree l (⟨"com/example/holdfast/holdfast/Backoff", "nextMillis", "()J"⟩ : MethodName) (head1 (Jvm.Cond.code (⟨"com/example/holdfast/holdfast/Backoff", "nextMillis", "()J"⟩ : MethodName) prog_1_method_2_code 3 (some .long) :: ws) ({ frames := 1, cells := 0, slots := 0, locals := 16 } : Room)) (fun a U => a = #[(.ref a1)] ∧ Z.Warmed39 U.vm ∧ U.heap = h0) (fun _ _ _ _ _ => True) (fun _ U o U' => ∃ v L, o = .returned v ∧ Q5 Z a1 w1 h0 n0 v U'.heap L ∧ FrameEnd U o U' L ({ frames := 1, cells := 0, slots := 0, locals := 16 } : Room).cells ({ frames := 1, cells := 0, slots := 0, locals := 16 } : Room).slots) := by
  refine MetFree.of_bodySF (plainFor_of_name pn_1) hisR ?_
  intro p e s m args below meth c s₁ Bd hml0 hP hK
  obtain ⟨rfl, hZ, hh⟩ := hP
  have hx := Bd.exec
  have hby := Bd.bytes
  have hml : c.maxLocals = 3 := hml0
  have hown : s.vm.findClass "com/example/holdfast/holdfast/Backoff" = some m.cls := findClass_of_methodNamed Bd.named
  have hnm := (name_of_methodNamed Bd.named Bd.method).1
  have X0 : Stand p l e ({ frames := 1, cells := 0, slots := 0, locals := 16 } : Room) s m #[(.ref a1)] below meth c s₁ [] 0 0 := Stand.of_body Bd
  have e0 : s₁.heap = h0 := by rw [← hh, Bd.state]; rfl
  have N0 := Fr.nil n0
  have pre0 : ∀ t, Steps p.tables e below (s₁.setTop (mkF m 0 #[.val (.ref a1), .unset, .unset] [])) t → Steps p.tables e below (s₁.setTop (entryFrame m #[(.ref a1)] 3)) t := fun t k => castTop (ef_5 m a1) k
  obtain ⟨T1, X1, e1, st1⟩ := getF X0 hx hZ hown (host := "") (Or.inl (hw _ (List.mem_of_getElem? (i := 10) rfl))) Via.refl e0 Fn (g := (mkF m 1 #[.val (.ref a1), .unset, .unset] [(.ref a1)])) rfl rfl (hb hby d5_1)
  obtain ⟨_, _, ⟨T2, L2, k2, n2⟩, -, X2, ⟨Lc2, hQ2, l2, y2, z2⟩, st2⟩ := Jvm.LawKit.callS X1 hx (y := (⟨"java/lang/Math", "min", "(JJ)J"⟩ : MethodName)) hown (mvT hZ (hw _ (List.mem_of_getElem? (i := 28) rfl))) (mvT hZ (hw _ (List.mem_of_getElem? (i := 29) rfl))) (mvT hZ (hw _ (List.mem_of_getElem? (i := 30) rfl))) (mvT hZ (hw _ (List.mem_of_getElem? (i := 31) rfl))) (by decide) (backOf (W := 1) (rm6 l Z a0 hw [] ((2 : Int64) * w1) (1000 : Int64) h0 n0 Z0 ) hZ (hw _ (List.mem_of_getElem? (i := 31) rfl)) (hw _ (List.mem_of_getElem? (i := 30) rfl)) (by decide) (by decide)) (g := (mkF m 14 #[.val (.ref a1), .val (.long w1), .second] [(.long (1000 : Int64)), (.long ((2 : Int64) * w1)), (.ref a1)])) rfl (by rw [hml]; rfl) (argsL := [(.long ((2 : Int64) * w1)), (.long (1000 : Int64))]) (rest := [(.ref a1)]) (lenOf pd_2 rfl) rfl (by show 2 * 0 + _ ≤ _; exact Nat.le_of_eq rfl) (hb hby d5_14) (fun _ _ => ⟨rfl, e1, (by decide : 0 + 0 ≤ _), (by decide : 0 + 0 ≤ _)⟩)
  dsimp only [Pt.U, Pt.locs, Pt.cells, Pt.slots] at X2 l2 y2 z2 st2 hQ2
  subst l2 y2 z2
  obtain ⟨rfl, N2q, e2⟩ := hQ2
  have N2 := Fr.app N0 N2q
  obtain ⟨T3, h3, X3, e3, W3, st3⟩ := putF X2 hx hZ hown (host := "") (Or.inl (hw _ (List.mem_of_getElem? (i := 10) rfl))) Via.refl e2 Fn E_a1 (Or.inl (hw _ (List.mem_of_getElem? (i := 11) rfl))) (hw _ (List.mem_of_getElem? (i := 1) rfl)) (ty := .long) (by decide) rfl rfl (g := (mkF m 17 #[.val (.ref a1), .val (.long w1), .second] [(.long (F6 ((2 : Int64) * w1) (1000 : Int64))), (.ref a1)])) rfl rfl (hb hby d5_17)
  have Fw3 := Fn.same W3
  have N3 := Fr.snoc X3 N2 g_a1
  have K3 := (Keep.refl h0 [a1]).wr W3 (Or.inl (List.mem_of_getElem? (i := 0) rfl))
  have c3_1 := E_a1.wr W3
  have Z3 := Nat.le_trans Z0 (Keep.of_wr W3).1
  obtain ⟨fs, hr, hrun, hended, hW, hsame⟩ := X3.leave (v := some (.long w1)) (fun h => by rw [Bd.returns] at h; cases h)
  refine ⟨_, _, pre0 _ ?_, hrun, hended, _, _, rfl, ?_, ⟨_, rfl⟩, hW, hsame.mono (by decide) (by decide)⟩
  · show Steps p.tables e below (s₁.setTop (mkF m 0 #[.val (.ref a1), .unset, .unset] [])) _
    refine XS.aloadN X0.here hx rfl (hb hby d5_0) rfl rfl ?_
    show Steps p.tables e below (s₁.setTop (mkF m 1 #[.val (.ref a1), .unset, .unset] [(.ref a1)])) _
    refine st1 _ ?_
    show Steps p.tables e below (T1.setTop (mkF m 4 #[.val (.ref a1), .unset, .unset] [(.long w1)])) _
    refine XS.lstoreN X1.here hx rfl (hb hby d5_4) rfl (l' := #[.val (.ref a1), .val (.long w1), .second]) rfl ?_
    show Steps p.tables e below (T1.setTop (mkF m 5 #[.val (.ref a1), .val (.long w1), .second] [])) _
    refine XS.aloadN X1.here hx rfl (hb hby d5_5) rfl rfl ?_
    show Steps p.tables e below (T1.setTop (mkF m 6 #[.val (.ref a1), .val (.long w1), .second] [(.ref a1)])) _
    refine X1.ldc2Long hx hown (mvT hZ (hw _ (List.mem_of_getElem? (i := 26) rfl))) (g := (mkF m 6 #[.val (.ref a1), .val (.long w1), .second] [(.ref a1)])) rfl (hb hby d5_6) _ ?_
    show Steps p.tables e below (T1.setTop (mkF m 9 #[.val (.ref a1), .val (.long w1), .second] [(.long (2 : Int64)), (.ref a1)])) _
    refine XS.lloadN X1.here hx rfl (hb hby d5_9) rfl ?_
    show Steps p.tables e below (T1.setTop (mkF m 10 #[.val (.ref a1), .val (.long w1), .second] [(.long w1), (.long (2 : Int64)), (.ref a1)])) _
    refine XS.lmul X1.here hx rfl (hb hby d5_10) rfl ?_
    show Steps p.tables e below (T1.setTop (mkF m 11 #[.val (.ref a1), .val (.long w1), .second] [(.long ((2 : Int64) * w1)), (.ref a1)])) _
    refine X1.ldc2Long hx hown (mvT hZ (hw _ (List.mem_of_getElem? (i := 27) rfl))) (g := (mkF m 11 #[.val (.ref a1), .val (.long w1), .second] [(.long ((2 : Int64) * w1)), (.ref a1)])) rfl (hb hby d5_11) _ ?_
    show Steps p.tables e below (T1.setTop (mkF m 14 #[.val (.ref a1), .val (.long w1), .second] [(.long (1000 : Int64)), (.long ((2 : Int64) * w1)), (.ref a1)])) _
    refine st2 _ ?_
    show Steps p.tables e below (T2.setTop (mkF m 17 #[.val (.ref a1), .val (.long w1), .second] [(.long (F6 ((2 : Int64) * w1) (1000 : Int64))), (.ref a1)])) _
    refine st3 _ ?_
    show Steps p.tables e below (T3.setTop (mkF m 20 #[.val (.ref a1), .val (.long w1), .second] [])) _
    refine XS.lloadN X3.here hx rfl (hb hby d5_20) rfl ?_
    show Steps p.tables e below (T3.setTop (mkF m 21 #[.val (.ref a1), .val (.long w1), .second] [(.long w1)])) _
    exact X3.lreturnOut hx Bd.returns (hb hby d5_21) hr
  · show Q5 Z a1 w1 h0 n0 _ T3.heap _
    rw [e3]
    exact ⟨congrArg (fun z => some (Value.long z)) (show F5 w1 = w1 by rw [F5]).symm, N3, K3, Fw3⟩
def G3 (p3 p4 : Int32) (w1 : Int64) : Int64 := F6 ((2 : Int64) * (if p3 = p4 then (100 : Int64) else w1)) (1000 : Int64)
theorem pd_3 : parseMethodDescriptor "()V" = some ⟨[], none⟩ := by decide +kernel
theorem pd_4 : parseMethodDescriptor "()J" = some ⟨[], some .long⟩ := by decide +kernel
theorem pd_5 : parseMethodDescriptor "(I)J" = some ⟨[.int], some .long⟩ := by decide +kernel
theorem d3_0 : decode method_3_code 0 = .ok (.iload_n 1, 1) := by decide +kernel
theorem d3_1 : decode method_3_code 1 = .ok (.ifCond .ge 5, 3) := by decide +kernel
theorem d3_6 : decode method_3_code 6 = .ok (.iload_n 1, 1) := by decide +kernel
theorem d3_7 : decode method_3_code 7 = .ok (.istore 4, 2) := by decide +kernel
theorem d3_9 : decode method_3_code 9 = .ok (.iload_n 2, 1) := by decide +kernel
theorem d3_10 : decode method_3_code 10 = .ok (.iload_n 3, 1) := by decide +kernel
theorem d3_11 : decode method_3_code 11 = .ok (.if_icmp .ne 10, 3) := by decide +kernel
theorem d3_14 : decode method_3_code 14 = .ok (.aload_n 0, 1) := by decide +kernel
theorem d3_15 : decode method_3_code 15 = .ok (.invokevirtual 17, 3) := by decide +kernel
theorem d3_18 : decode method_3_code 18 = .ok (.iconst 0, 1) := by decide +kernel
theorem d3_19 : decode method_3_code 19 = .ok (.istore 4, 2) := by decide +kernel
theorem d3_21 : decode method_3_code 21 = .ok (.aload_n 0, 1) := by decide +kernel
theorem d3_22 : decode method_3_code 22 = .ok (.invokevirtual 22, 3) := by decide +kernel
theorem d3_25 : decode method_3_code 25 = .ok (.lstore 5, 2) := by decide +kernel
theorem d3_27 : decode method_3_code 27 = .ok (.lload 5, 2) := by decide +kernel
theorem d3_29 : decode method_3_code 29 = .ok (.iload 4, 2) := by decide +kernel
theorem d3_31 : decode method_3_code 31 = .ok (.invokestatic 26, 3) := by decide +kernel
theorem d3_34 : decode method_3_code 34 = .ok (.lcmp, 1) := by decide +kernel
theorem d3_35 : decode method_3_code 35 = .ok (.ifCond .eq 5, 3) := by decide +kernel
theorem d3_38 : decode method_3_code 38 = .ok (.iconst (-1), 1) := by decide +kernel
theorem d3_39 : decode method_3_code 39 = .ok (.ireturn, 1) := by decide +kernel
theorem d3_40 : decode method_3_code 40 = .ok (.iload 4, 2) := by decide +kernel
theorem d3_42 : decode method_3_code 42 = .ok (.iconst 1, 1) := by decide +kernel
theorem d3_43 : decode method_3_code 43 = .ok (.iadd, 1) := by decide +kernel
theorem d3_44 : decode method_3_code 44 = .ok (.ireturn, 1) := by decide +kernel
theorem ef_3 (m : MethodId) (x0 : Addr) (x1 : Int32) (x2 : Int32) (x3 : Int32) : entryFrame m #[(.ref x0), (.int x1), (.int x2), (.int x3)] 7 = mkF m 0 #[.val (.ref x0), .val (.int x1), .val (.int x2), .val (.int x3), .unset, .unset, .unset] [] := by first | (simp [entryFrame, mkF, argsToLocals, Value.category]; done) | rfl
def F3 (p2 : Int32) (p3 : Int32) (p4 : Int32) (w1 : Int64) : Int32 := (if p3 = p4 then (if (100 : Int64) = (F7 (0 : Int32)) then ((0 : Int32) + (1 : Int32)) else (-1 : Int32)) else (if w1 = (F7 p2) then (p2 + (1 : Int32)) else (-1 : Int32)))
def Q3 (Z : State) (a1 : Addr) (p2 : Int32) (p3 : Int32) (p4 : Int32) (w1 : Int64) (h0 : Heap) (n0 : Nat) (v : Option Value) (h : Heap) (L : List Loc) : Prop := v = some (.int (F3 p2 p3 p4 w1)) ∧ Fr n0 L ∧ Keep h0 h [a1] ∧ Fld Z h a1 "com/example/holdfast/holdfast/Backoff" "nextMillis" "J" (.long (G3 p3 p4 w1))
set_option maxRecDepth 65536 in
set_option maxHeartbeats 40000000 in
theorem rm3 (l : Launch) (Z : State) (a0 : Array Value) (hw : ∀ d ∈ tables_1, d.before a0 Z = true) (ws : List Jvm.Cond) (a1 : Addr) (p2 : Int32) (p3 : Int32) (p4 : Int32) (w1 : Int64) (h0 : Heap) (n0 : Nat) (Z0 : n0 ≤ h0.size) (E_a1 : Exa Z h0 a1 "com/example/holdfast/holdfast/Backoff") (Fn : Fld Z h0 a1 "com/example/holdfast/holdfast/Backoff" "nextMillis" "J" (.long w1)) (g_a1 : n0 ≤ a1) (hk : ¬ (p2 < (0 : Int32))) :
    MetFree l (⟨"com/example/holdfast/holdfast/BackoffNextMillisPinLaw", "step", "(Lcom/example/holdfast/holdfast/Backoff;III)I"⟩ : MethodName) (head1 (Jvm.Cond.code (⟨"com/example/holdfast/holdfast/BackoffNextMillisPinLaw", "step", "(Lcom/example/holdfast/holdfast/Backoff;III)I"⟩ : MethodName) method_3_code 7 (some .int) :: ws) ({ frames := 2, cells := 0, slots := 0, locals := 30 } : Room)) (fun a U => a = #[(.ref a1), (.int p2), (.int p3), (.int p4)] ∧ Z.Warmed39 U.vm ∧ U.heap = h0) (fun _ _ _ _ _ => True) (fun _ U o U' => ∃ v L, o = .returned v ∧ Q3 Z a1 p2 p3 p4 w1 h0 n0 v U'.heap L ∧ FrameEnd U o U' L ({ frames := 2, cells := 0, slots := 0, locals := 30 } : Room).cells ({ frames := 2, cells := 0, slots := 0, locals := 30 } : Room).slots) := by
  refine MetFree.of_bodySF (plainFor_of_name pn_7) hisR ?_
  intro p e s m args below meth c s₁ Bd hml0 hP hK
  obtain ⟨rfl, hZ, hh⟩ := hP
  have hx := Bd.exec
  have hby := Bd.bytes
  have hml : c.maxLocals = 7 := hml0
  have hown : s.vm.findClass "com/example/holdfast/holdfast/BackoffNextMillisPinLaw" = some m.cls := findClass_of_methodNamed Bd.named
  have hnm := (name_of_methodNamed Bd.named Bd.method).1
  have X0 : Stand p l e ({ frames := 2, cells := 0, slots := 0, locals := 30 } : Room) s m #[(.ref a1), (.int p2), (.int p3), (.int p4)] below meth c s₁ [] 0 0 := Stand.of_body Bd
  have e0 : s₁.heap = h0 := by rw [← hh, Bd.state]; rfl
  have N0 := Fr.nil n0
  have pre0 : ∀ t, Steps p.tables e below (s₁.setTop (mkF m 0 #[.val (.ref a1), .val (.int p2), .val (.int p3), .val (.int p4), .unset, .unset, .unset] [])) t → Steps p.tables e below (s₁.setTop (entryFrame m #[(.ref a1), (.int p2), (.int p3), (.int p4)] 7)) t := fun t k => castTop (ef_3 m a1 p2 p3 p4) k
  by_cases hc11_1 : p3 = p4
  · obtain ⟨cq2, kq2, q2a, q2b, q2c⟩ := isOf hZ e0 E_a1
    obtain ⟨_, _, ⟨T2, L2, k2, n2⟩, -, X2, ⟨Lc2, hQ2, l2, y2, z2⟩, st2⟩ := X0.virtualBack hx (y := (⟨"com/example/holdfast/holdfast/Backoff", "reset", "()V"⟩ : MethodName)) (z := (⟨"com/example/holdfast/holdfast/Backoff", "reset", "()V"⟩ : MethodName)) hown (mvT hZ (hw _ (List.mem_of_getElem? (i := 16) rfl))) (mvT hZ (hw _ (List.mem_of_getElem? (i := 17) rfl))) (notFace_of_selects (args := #[]) (mvT hZ (hw _ (List.mem_of_getElem? (i := 19) rfl)))) (mvT hZ (hw _ (List.mem_of_getElem? (i := 19) rfl))) (mvT hZ (hw _ (List.mem_of_getElem? (i := 18) rfl))) (by decide) (backOf (W := 0) (rm4 l Z a0 hw [] a1 (.long w1) h0 n0 Z0 E_a1 Fn g_a1) hZ (hw _ (List.mem_of_getElem? (i := 20) rfl)) (hw _ (List.mem_of_getElem? (i := 2) rfl)) (by decide) (by decide)) q2a q2c (g := (mkF m 15 #[.val (.ref a1), .val (.int p2), .val (.int p3), .val (.int p4), .val (.int p2), .unset, .unset] [(.ref a1)])) rfl (by rw [hml]; rfl) (Steps.refl _) (argsL := []) (rest := []) (lenOf pd_3 rfl) rfl (by show 2 * 0 + _ ≤ _; exact Nat.le_of_eq rfl) (hb hby d3_15) (fun _ _ => ⟨rfl, e0, (by decide : 0 + 0 ≤ _), (by decide : 0 + 0 ≤ _)⟩)
    dsimp only [Pt.U, Pt.locs, Pt.cells, Pt.slots] at X2 l2 y2 z2 st2 hQ2
    subst l2 y2 z2
    obtain ⟨rfl, N2q, K2q, Fn2⟩ := hQ2
    have N2 := Fr.app N0 N2q
    have Z2 := Nat.le_trans Z0 K2q.1
    have K2 := own_ktrans (Keep.refl h0 [a1]) K2q
    have c2_1 := E_a1.keep K2q
    obtain ⟨cq3, kq3, q3a, q3b, q3c⟩ := isOf hZ rfl c2_1
    obtain ⟨_, _, ⟨T3, L3, k3, n3⟩, -, X3, ⟨Lc3, hQ3, l3, y3, z3⟩, st3⟩ := X2.virtualBack hx (y := (⟨"com/example/holdfast/holdfast/Backoff", "nextMillis", "()J"⟩ : MethodName)) (z := (⟨"com/example/holdfast/holdfast/Backoff", "nextMillis", "()J"⟩ : MethodName)) hown (mvT hZ (hw _ (List.mem_of_getElem? (i := 21) rfl))) (mvT hZ (hw _ (List.mem_of_getElem? (i := 22) rfl))) (notFace_of_selects (args := #[]) (mvT hZ (hw _ (List.mem_of_getElem? (i := 24) rfl)))) (mvT hZ (hw _ (List.mem_of_getElem? (i := 24) rfl))) (mvT hZ (hw _ (List.mem_of_getElem? (i := 23) rfl))) (by decide) (backOf (W := 0) (rm5 l Z a0 hw [] a1 (100 : Int64) T2.heap n0 Z2 c2_1 Fn2 g_a1) hZ (hw _ (List.mem_of_getElem? (i := 25) rfl)) (hw _ (List.mem_of_getElem? (i := 2) rfl)) (by decide) (by decide)) q3a q3c (g := (mkF m 22 #[.val (.ref a1), .val (.int p2), .val (.int p3), .val (.int p4), .val (.int (0 : Int32)), .unset, .unset] [(.ref a1)])) rfl (by rw [hml]; rfl) (Steps.refl _) (argsL := []) (rest := []) (lenOf pd_4 rfl) rfl (by show 2 * 0 + _ ≤ _; exact Nat.le_of_eq rfl) (hb hby d3_22) (fun _ _ => ⟨rfl, rfl, (by decide : 0 + 0 ≤ _), (by decide : 0 + 0 ≤ _)⟩)
    dsimp only [Pt.U, Pt.locs, Pt.cells, Pt.slots] at X3 l3 y3 z3 st3 hQ3
    subst l3 y3 z3
    obtain ⟨rfl, N3q, K3q, Fn3⟩ := hQ3
    have N3 := Fr.app N2 N3q
    have Z3 := Nat.le_trans Z2 K3q.1
    have K3 := own_ktrans K2 K3q
    have c3_1 := c2_1.keep K3q
    obtain ⟨_, _, ⟨T4, L4, k4, n4⟩, -, X4, ⟨Lc4, hQ4, l4, y4, z4⟩, st4⟩ := Jvm.LawKit.callS X3 hx (y := (⟨"com/example/holdfast/holdfast/BackoffNextMillisPinLaw", "expected", "(I)J"⟩ : MethodName)) hown (mvT hZ (hw _ (List.mem_of_getElem? (i := 32) rfl))) (mvT hZ (hw _ (List.mem_of_getElem? (i := 33) rfl))) (mvT hZ (hw _ (List.mem_of_getElem? (i := 14) rfl))) (mvT hZ (hw _ (List.mem_of_getElem? (i := 34) rfl))) (by decide) (backOf (W := 2) (rm7 l Z a0 hw [] (0 : Int32) T3.heap n0 Z3 ) hZ (hw _ (List.mem_of_getElem? (i := 34) rfl)) (hw _ (List.mem_of_getElem? (i := 14) rfl)) (by decide) (by decide)) (g := (mkF m 31 #[.val (.ref a1), .val (.int p2), .val (.int p3), .val (.int p4), .val (.int (0 : Int32)), .val (.long (100 : Int64)), .second] [(.int (0 : Int32)), (.long (100 : Int64))])) rfl (by rw [hml]; rfl) (argsL := [(.int (0 : Int32))]) (rest := [(.long (100 : Int64))]) (lenOf pd_5 rfl) rfl (by show 2 * 0 + _ ≤ _; exact Nat.le_of_eq rfl) (hb hby d3_31) (fun _ _ => ⟨rfl, rfl, (by decide : 0 + 0 ≤ _), (by decide : 0 + 0 ≤ _)⟩)
    dsimp only [Pt.U, Pt.locs, Pt.cells, Pt.slots] at X4 l4 y4 z4 st4 hQ4
    subst l4 y4 z4
    obtain ⟨rfl, N4q, e4⟩ := hQ4
    have N4 := Fr.app N3 N4q
    obtain ⟨fs, hr, hrun, hended, hW, hsame⟩ := X4.leave (v := some (.int (if (100 : Int64) = (F7 (0 : Int32)) then ((0 : Int32) + (1 : Int32)) else (-1 : Int32)))) (fun h => by rw [Bd.returns] at h; cases h)
    refine ⟨_, _, pre0 _ ?_, hrun, hended, _, _, rfl, ?_, ⟨_, rfl⟩, hW, hsame.mono (by decide) (by decide)⟩
    · show Steps p.tables e below (s₁.setTop (mkF m 0 #[.val (.ref a1), .val (.int p2), .val (.int p3), .val (.int p4), .unset, .unset, .unset] [])) _
      refine XS.iloadN X0.here hx rfl (hb hby d3_0) rfl ?_
      show Steps p.tables e below (s₁.setTop (mkF m 1 #[.val (.ref a1), .val (.int p2), .val (.int p3), .val (.int p4), .unset, .unset, .unset] [(.int p2)])) _
      refine XS.ifYes X0.here hx rfl (pc0 := 1) (pc' := 6) rfl (hb hby d3_1) rfl ((if0 _ _).trans (flt hk).2.1) (by decide) (by decide) ?_
      show Steps p.tables e below (s₁.setTop (mkF m 6 #[.val (.ref a1), .val (.int p2), .val (.int p3), .val (.int p4), .unset, .unset, .unset] [])) _
      refine XS.iloadN X0.here hx rfl (hb hby d3_6) rfl ?_
      show Steps p.tables e below (s₁.setTop (mkF m 7 #[.val (.ref a1), .val (.int p2), .val (.int p3), .val (.int p4), .unset, .unset, .unset] [(.int p2)])) _
      refine XS.istore X0.here hx rfl (hb hby d3_7) rfl (l' := #[.val (.ref a1), .val (.int p2), .val (.int p3), .val (.int p4), .val (.int p2), .unset, .unset]) rfl ?_
      show Steps p.tables e below (s₁.setTop (mkF m 9 #[.val (.ref a1), .val (.int p2), .val (.int p3), .val (.int p4), .val (.int p2), .unset, .unset] [])) _
      refine XS.iloadN X0.here hx rfl (hb hby d3_9) rfl ?_
      show Steps p.tables e below (s₁.setTop (mkF m 10 #[.val (.ref a1), .val (.int p2), .val (.int p3), .val (.int p4), .val (.int p2), .unset, .unset] [(.int p3)])) _
      refine XS.iloadN X0.here hx rfl (hb hby d3_10) rfl ?_
      show Steps p.tables e below (s₁.setTop (mkF m 11 #[.val (.ref a1), .val (.int p2), .val (.int p3), .val (.int p4), .val (.int p2), .unset, .unset] [(.int p4), (.int p3)])) _
      refine XS.icmpNo X0.here hx rfl (hb hby d3_11) rfl (teq hc11_1).2 ?_
      show Steps p.tables e below (s₁.setTop (mkF m 14 #[.val (.ref a1), .val (.int p2), .val (.int p3), .val (.int p4), .val (.int p2), .unset, .unset] [])) _
      refine XS.aloadN X0.here hx rfl (hb hby d3_14) rfl rfl ?_
      show Steps p.tables e below (s₁.setTop (mkF m 15 #[.val (.ref a1), .val (.int p2), .val (.int p3), .val (.int p4), .val (.int p2), .unset, .unset] [(.ref a1)])) _
      refine st2.trans ?_
      show Steps p.tables e below (T2.setTop (mkF m 18 #[.val (.ref a1), .val (.int p2), .val (.int p3), .val (.int p4), .val (.int p2), .unset, .unset] [])) _
      refine XS.iconst X2.here hx rfl (hb hby d3_18) ?_
      show Steps p.tables e below (T2.setTop (mkF m 19 #[.val (.ref a1), .val (.int p2), .val (.int p3), .val (.int p4), .val (.int p2), .unset, .unset] [(.int (0 : Int32))])) _
      refine XS.istore X2.here hx rfl (hb hby d3_19) rfl (l' := #[.val (.ref a1), .val (.int p2), .val (.int p3), .val (.int p4), .val (.int (0 : Int32)), .unset, .unset]) rfl ?_
      show Steps p.tables e below (T2.setTop (mkF m 21 #[.val (.ref a1), .val (.int p2), .val (.int p3), .val (.int p4), .val (.int (0 : Int32)), .unset, .unset] [])) _
      refine XS.aloadN X2.here hx rfl (hb hby d3_21) rfl rfl ?_
      show Steps p.tables e below (T2.setTop (mkF m 22 #[.val (.ref a1), .val (.int p2), .val (.int p3), .val (.int p4), .val (.int (0 : Int32)), .unset, .unset] [(.ref a1)])) _
      refine st3.trans ?_
      show Steps p.tables e below (T3.setTop (mkF m 25 #[.val (.ref a1), .val (.int p2), .val (.int p3), .val (.int p4), .val (.int (0 : Int32)), .unset, .unset] [(.long (100 : Int64))])) _
      refine XS.lstore X3.here hx rfl (hb hby d3_25) rfl (l' := #[.val (.ref a1), .val (.int p2), .val (.int p3), .val (.int p4), .val (.int (0 : Int32)), .val (.long (100 : Int64)), .second]) rfl ?_
      show Steps p.tables e below (T3.setTop (mkF m 27 #[.val (.ref a1), .val (.int p2), .val (.int p3), .val (.int p4), .val (.int (0 : Int32)), .val (.long (100 : Int64)), .second] [])) _
      refine XS.lload X3.here hx rfl (hb hby d3_27) rfl ?_
      show Steps p.tables e below (T3.setTop (mkF m 29 #[.val (.ref a1), .val (.int p2), .val (.int p3), .val (.int p4), .val (.int (0 : Int32)), .val (.long (100 : Int64)), .second] [(.long (100 : Int64))])) _
      refine XS.iload X3.here hx rfl (hb hby d3_29) rfl ?_
      show Steps p.tables e below (T3.setTop (mkF m 31 #[.val (.ref a1), .val (.int p2), .val (.int p3), .val (.int p4), .val (.int (0 : Int32)), .val (.long (100 : Int64)), .second] [(.int (0 : Int32)), (.long (100 : Int64))])) _
      refine st4 _ ?_
      show Steps p.tables e below (T4.setTop (mkF m 34 #[.val (.ref a1), .val (.int p2), .val (.int p3), .val (.int p4), .val (.int (0 : Int32)), .val (.long (100 : Int64)), .second] [(.long (F7 (0 : Int32))), (.long (100 : Int64))])) _
      refine XS.lcmp X4.here hx rfl (hb hby d3_34) rfl ?_
      show Steps p.tables e below (T4.setTop (mkF m 35 #[.val (.ref a1), .val (.int p2), .val (.int p3), .val (.int p4), .val (.int (0 : Int32)), .val (.long (100 : Int64)), .second] [(.int (lcmpW (100 : Int64) (F7 (0 : Int32))))])) _
      by_cases hc35_5 : (100 : Int64) = (F7 (0 : Int32))
      · refine XS.ifYes X4.here hx rfl (pc0 := 35) (pc' := 40) rfl (hb hby d3_35) rfl ((if0 _ _).trans (teq ((lw_eq (100 : Int64) (F7 (0 : Int32))).mpr hc35_5)).1) (by decide) (by decide) ?_
        show Steps p.tables e below (T4.setTop (mkF m 40 #[.val (.ref a1), .val (.int p2), .val (.int p3), .val (.int p4), .val (.int (0 : Int32)), .val (.long (100 : Int64)), .second] [])) _
        refine XS.iload X4.here hx rfl (hb hby d3_40) rfl ?_
        show Steps p.tables e below (T4.setTop (mkF m 42 #[.val (.ref a1), .val (.int p2), .val (.int p3), .val (.int p4), .val (.int (0 : Int32)), .val (.long (100 : Int64)), .second] [(.int (0 : Int32))])) _
        refine XS.iconst X4.here hx rfl (hb hby d3_42) ?_
        show Steps p.tables e below (T4.setTop (mkF m 43 #[.val (.ref a1), .val (.int p2), .val (.int p3), .val (.int p4), .val (.int (0 : Int32)), .val (.long (100 : Int64)), .second] [(.int (1 : Int32)), (.int (0 : Int32))])) _
        refine XS.iadd X4.here hx rfl (hb hby d3_43) rfl ?_
        show Steps p.tables e below (T4.setTop (mkF m 44 #[.val (.ref a1), .val (.int p2), .val (.int p3), .val (.int p4), .val (.int (0 : Int32)), .val (.long (100 : Int64)), .second] [(.int ((0 : Int32) + (1 : Int32)))])) _
        rw [if_pos hc35_5] at hr
        exact retI X4 hx Bd.returns (hb hby d3_44) hr
      · refine XS.ifNo X4.here hx rfl (hb hby d3_35) rfl ((if0 _ _).trans (feq (mt (lw_eq (100 : Int64) (F7 (0 : Int32))).mp hc35_5)).1) ?_
        show Steps p.tables e below (T4.setTop (mkF m 38 #[.val (.ref a1), .val (.int p2), .val (.int p3), .val (.int p4), .val (.int (0 : Int32)), .val (.long (100 : Int64)), .second] [])) _
        refine XS.iconst X4.here hx rfl (hb hby d3_38) ?_
        show Steps p.tables e below (T4.setTop (mkF m 39 #[.val (.ref a1), .val (.int p2), .val (.int p3), .val (.int p4), .val (.int (0 : Int32)), .val (.long (100 : Int64)), .second] [(.int (-1 : Int32))])) _
        rw [if_neg hc35_5] at hr
        exact retI X4 hx Bd.returns (hb hby d3_39) hr
    · show Q3 Z a1 p2 p3 p4 w1 h0 n0 _ T4.heap _
      rw [e4]
      exact ⟨congrArg (fun z => some (Value.int z)) (show F3 p2 p3 p4 w1 = (if (100 : Int64) = (F7 (0 : Int32)) then ((0 : Int32) + (1 : Int32)) else (-1 : Int32)) by rw [F3, if_pos hc11_1]).symm, N4, K3, (show G3 p3 p4 w1 = (F6 ((2 : Int64) * (100 : Int64)) (1000 : Int64)) by rw [G3, if_pos hc11_1]) ▸ Fn3⟩
  · obtain ⟨cq6, kq6, q6a, q6b, q6c⟩ := isOf hZ e0 E_a1
    obtain ⟨_, _, ⟨T6, L6, k6, n6⟩, -, X6, ⟨Lc6, hQ6, l6, y6, z6⟩, st6⟩ := X0.virtualBack hx (y := (⟨"com/example/holdfast/holdfast/Backoff", "nextMillis", "()J"⟩ : MethodName)) (z := (⟨"com/example/holdfast/holdfast/Backoff", "nextMillis", "()J"⟩ : MethodName)) hown (mvT hZ (hw _ (List.mem_of_getElem? (i := 21) rfl))) (mvT hZ (hw _ (List.mem_of_getElem? (i := 22) rfl))) (notFace_of_selects (args := #[]) (mvT hZ (hw _ (List.mem_of_getElem? (i := 24) rfl)))) (mvT hZ (hw _ (List.mem_of_getElem? (i := 24) rfl))) (mvT hZ (hw _ (List.mem_of_getElem? (i := 23) rfl))) (by decide) (backOf (W := 0) (rm5 l Z a0 hw [] a1 w1 h0 n0 Z0 E_a1 Fn g_a1) hZ (hw _ (List.mem_of_getElem? (i := 25) rfl)) (hw _ (List.mem_of_getElem? (i := 2) rfl)) (by decide) (by decide)) q6a q6c (g := (mkF m 22 #[.val (.ref a1), .val (.int p2), .val (.int p3), .val (.int p4), .val (.int p2), .unset, .unset] [(.ref a1)])) rfl (by rw [hml]; rfl) (Steps.refl _) (argsL := []) (rest := []) (lenOf pd_4 rfl) rfl (by show 2 * 0 + _ ≤ _; exact Nat.le_of_eq rfl) (hb hby d3_22) (fun _ _ => ⟨rfl, e0, (by decide : 0 + 0 ≤ _), (by decide : 0 + 0 ≤ _)⟩)
    dsimp only [Pt.U, Pt.locs, Pt.cells, Pt.slots] at X6 l6 y6 z6 st6 hQ6
    subst l6 y6 z6
    obtain ⟨rfl, N6q, K6q, Fn6⟩ := hQ6
    have N6 := Fr.app N0 N6q
    have Z6 := Nat.le_trans Z0 K6q.1
    have K6 := own_ktrans (Keep.refl h0 [a1]) K6q
    have c6_1 := E_a1.keep K6q
    obtain ⟨_, _, ⟨T7, L7, k7, n7⟩, -, X7, ⟨Lc7, hQ7, l7, y7, z7⟩, st7⟩ := Jvm.LawKit.callS X6 hx (y := (⟨"com/example/holdfast/holdfast/BackoffNextMillisPinLaw", "expected", "(I)J"⟩ : MethodName)) hown (mvT hZ (hw _ (List.mem_of_getElem? (i := 32) rfl))) (mvT hZ (hw _ (List.mem_of_getElem? (i := 33) rfl))) (mvT hZ (hw _ (List.mem_of_getElem? (i := 14) rfl))) (mvT hZ (hw _ (List.mem_of_getElem? (i := 34) rfl))) (by decide) (backOf (W := 2) (rm7 l Z a0 hw [] p2 T6.heap n0 Z6 ) hZ (hw _ (List.mem_of_getElem? (i := 34) rfl)) (hw _ (List.mem_of_getElem? (i := 14) rfl)) (by decide) (by decide)) (g := (mkF m 31 #[.val (.ref a1), .val (.int p2), .val (.int p3), .val (.int p4), .val (.int p2), .val (.long w1), .second] [(.int p2), (.long w1)])) rfl (by rw [hml]; rfl) (argsL := [(.int p2)]) (rest := [(.long w1)]) (lenOf pd_5 rfl) rfl (by show 2 * 0 + _ ≤ _; exact Nat.le_of_eq rfl) (hb hby d3_31) (fun _ _ => ⟨rfl, rfl, (by decide : 0 + 0 ≤ _), (by decide : 0 + 0 ≤ _)⟩)
    dsimp only [Pt.U, Pt.locs, Pt.cells, Pt.slots] at X7 l7 y7 z7 st7 hQ7
    subst l7 y7 z7
    obtain ⟨rfl, N7q, e7⟩ := hQ7
    have N7 := Fr.app N6 N7q
    obtain ⟨fs, hr, hrun, hended, hW, hsame⟩ := X7.leave (v := some (.int (if w1 = (F7 p2) then (p2 + (1 : Int32)) else (-1 : Int32)))) (fun h => by rw [Bd.returns] at h; cases h)
    refine ⟨_, _, pre0 _ ?_, hrun, hended, _, _, rfl, ?_, ⟨_, rfl⟩, hW, hsame.mono (by decide) (by decide)⟩
    · show Steps p.tables e below (s₁.setTop (mkF m 0 #[.val (.ref a1), .val (.int p2), .val (.int p3), .val (.int p4), .unset, .unset, .unset] [])) _
      refine XS.iloadN X0.here hx rfl (hb hby d3_0) rfl ?_
      show Steps p.tables e below (s₁.setTop (mkF m 1 #[.val (.ref a1), .val (.int p2), .val (.int p3), .val (.int p4), .unset, .unset, .unset] [(.int p2)])) _
      refine XS.ifYes X0.here hx rfl (pc0 := 1) (pc' := 6) rfl (hb hby d3_1) rfl ((if0 _ _).trans (flt hk).2.1) (by decide) (by decide) ?_
      show Steps p.tables e below (s₁.setTop (mkF m 6 #[.val (.ref a1), .val (.int p2), .val (.int p3), .val (.int p4), .unset, .unset, .unset] [])) _
      refine XS.iloadN X0.here hx rfl (hb hby d3_6) rfl ?_
      show Steps p.tables e below (s₁.setTop (mkF m 7 #[.val (.ref a1), .val (.int p2), .val (.int p3), .val (.int p4), .unset, .unset, .unset] [(.int p2)])) _
      refine XS.istore X0.here hx rfl (hb hby d3_7) rfl (l' := #[.val (.ref a1), .val (.int p2), .val (.int p3), .val (.int p4), .val (.int p2), .unset, .unset]) rfl ?_
      show Steps p.tables e below (s₁.setTop (mkF m 9 #[.val (.ref a1), .val (.int p2), .val (.int p3), .val (.int p4), .val (.int p2), .unset, .unset] [])) _
      refine XS.iloadN X0.here hx rfl (hb hby d3_9) rfl ?_
      show Steps p.tables e below (s₁.setTop (mkF m 10 #[.val (.ref a1), .val (.int p2), .val (.int p3), .val (.int p4), .val (.int p2), .unset, .unset] [(.int p3)])) _
      refine XS.iloadN X0.here hx rfl (hb hby d3_10) rfl ?_
      show Steps p.tables e below (s₁.setTop (mkF m 11 #[.val (.ref a1), .val (.int p2), .val (.int p3), .val (.int p4), .val (.int p2), .unset, .unset] [(.int p4), (.int p3)])) _
      refine XS.icmpYes X0.here hx rfl (pc0 := 11) (pc' := 21) rfl (hb hby d3_11) rfl (feq hc11_1).2 (by decide) (by decide) ?_
      show Steps p.tables e below (s₁.setTop (mkF m 21 #[.val (.ref a1), .val (.int p2), .val (.int p3), .val (.int p4), .val (.int p2), .unset, .unset] [])) _
      refine XS.aloadN X0.here hx rfl (hb hby d3_21) rfl rfl ?_
      show Steps p.tables e below (s₁.setTop (mkF m 22 #[.val (.ref a1), .val (.int p2), .val (.int p3), .val (.int p4), .val (.int p2), .unset, .unset] [(.ref a1)])) _
      refine st6.trans ?_
      show Steps p.tables e below (T6.setTop (mkF m 25 #[.val (.ref a1), .val (.int p2), .val (.int p3), .val (.int p4), .val (.int p2), .unset, .unset] [(.long w1)])) _
      refine XS.lstore X6.here hx rfl (hb hby d3_25) rfl (l' := #[.val (.ref a1), .val (.int p2), .val (.int p3), .val (.int p4), .val (.int p2), .val (.long w1), .second]) rfl ?_
      show Steps p.tables e below (T6.setTop (mkF m 27 #[.val (.ref a1), .val (.int p2), .val (.int p3), .val (.int p4), .val (.int p2), .val (.long w1), .second] [])) _
      refine XS.lload X6.here hx rfl (hb hby d3_27) rfl ?_
      show Steps p.tables e below (T6.setTop (mkF m 29 #[.val (.ref a1), .val (.int p2), .val (.int p3), .val (.int p4), .val (.int p2), .val (.long w1), .second] [(.long w1)])) _
      refine XS.iload X6.here hx rfl (hb hby d3_29) rfl ?_
      show Steps p.tables e below (T6.setTop (mkF m 31 #[.val (.ref a1), .val (.int p2), .val (.int p3), .val (.int p4), .val (.int p2), .val (.long w1), .second] [(.int p2), (.long w1)])) _
      refine st7 _ ?_
      show Steps p.tables e below (T7.setTop (mkF m 34 #[.val (.ref a1), .val (.int p2), .val (.int p3), .val (.int p4), .val (.int p2), .val (.long w1), .second] [(.long (F7 p2)), (.long w1)])) _
      refine XS.lcmp X7.here hx rfl (hb hby d3_34) rfl ?_
      show Steps p.tables e below (T7.setTop (mkF m 35 #[.val (.ref a1), .val (.int p2), .val (.int p3), .val (.int p4), .val (.int p2), .val (.long w1), .second] [(.int (lcmpW w1 (F7 p2)))])) _
      by_cases hc35_8 : w1 = (F7 p2)
      · refine XS.ifYes X7.here hx rfl (pc0 := 35) (pc' := 40) rfl (hb hby d3_35) rfl ((if0 _ _).trans (teq ((lw_eq w1 (F7 p2)).mpr hc35_8)).1) (by decide) (by decide) ?_
        show Steps p.tables e below (T7.setTop (mkF m 40 #[.val (.ref a1), .val (.int p2), .val (.int p3), .val (.int p4), .val (.int p2), .val (.long w1), .second] [])) _
        refine XS.iload X7.here hx rfl (hb hby d3_40) rfl ?_
        show Steps p.tables e below (T7.setTop (mkF m 42 #[.val (.ref a1), .val (.int p2), .val (.int p3), .val (.int p4), .val (.int p2), .val (.long w1), .second] [(.int p2)])) _
        refine XS.iconst X7.here hx rfl (hb hby d3_42) ?_
        show Steps p.tables e below (T7.setTop (mkF m 43 #[.val (.ref a1), .val (.int p2), .val (.int p3), .val (.int p4), .val (.int p2), .val (.long w1), .second] [(.int (1 : Int32)), (.int p2)])) _
        refine XS.iadd X7.here hx rfl (hb hby d3_43) rfl ?_
        show Steps p.tables e below (T7.setTop (mkF m 44 #[.val (.ref a1), .val (.int p2), .val (.int p3), .val (.int p4), .val (.int p2), .val (.long w1), .second] [(.int (p2 + (1 : Int32)))])) _
        rw [if_pos hc35_8] at hr
        exact retI X7 hx Bd.returns (hb hby d3_44) hr
      · refine XS.ifNo X7.here hx rfl (hb hby d3_35) rfl ((if0 _ _).trans (feq (mt (lw_eq w1 (F7 p2)).mp hc35_8)).1) ?_
        show Steps p.tables e below (T7.setTop (mkF m 38 #[.val (.ref a1), .val (.int p2), .val (.int p3), .val (.int p4), .val (.int p2), .val (.long w1), .second] [])) _
        refine XS.iconst X7.here hx rfl (hb hby d3_38) ?_
        show Steps p.tables e below (T7.setTop (mkF m 39 #[.val (.ref a1), .val (.int p2), .val (.int p3), .val (.int p4), .val (.int p2), .val (.long w1), .second] [(.int (-1 : Int32))])) _
        rw [if_neg hc35_8] at hr
        exact retI X7 hx Bd.returns (hb hby d3_39) hr
    · show Q3 Z a1 p2 p3 p4 w1 h0 n0 _ T7.heap _
      rw [e7]
      exact ⟨congrArg (fun z => some (Value.int z)) (show F3 p2 p3 p4 w1 = (if w1 = (F7 p2) then (p2 + (1 : Int32)) else (-1 : Int32)) by rw [F3, if_neg hc11_1]).symm, N7, K6, (show G3 p3 p4 w1 = (F6 ((2 : Int64) * w1) (1000 : Int64)) by rw [G3, if_neg hc11_1]) ▸ Fn6⟩
def K1 (r : Int32) : Int32 := F3 (0 : Int32) r (0 : Int32) (100 : Int64)
def W1 (r : Int32) : Int64 := G3 r (0 : Int32) (100 : Int64)
def K2 (r : Int32) : Int32 := F3 (K1 r) r (1 : Int32) (W1 r)
def W2 (r : Int32) : Int64 := G3 r (1 : Int32) (W1 r)
def K3 (r : Int32) : Int32 := F3 (K2 r) r (2 : Int32) (W2 r)
def W3 (r : Int32) : Int64 := G3 r (2 : Int32) (W2 r)
def K4 (r : Int32) : Int32 := F3 (K3 r) r (3 : Int32) (W3 r)
def W4 (r : Int32) : Int64 := G3 r (3 : Int32) (W3 r)
def K5 (r : Int32) : Int32 := F3 (K4 r) r (4 : Int32) (W4 r)
def W5 (r : Int32) : Int64 := G3 r (4 : Int32) (W4 r)
def K6 (r : Int32) : Int32 := F3 (K5 r) r (5 : Int32) (W5 r)
def W6 (r : Int32) : Int64 := G3 r (5 : Int32) (W5 r)
def K7 (r : Int32) : Int32 := F3 (K6 r) r (6 : Int32) (W6 r)
def W7 (r : Int32) : Int64 := G3 r (6 : Int32) (W6 r)
theorem own_low (p1 : Int32) : ∃ n : Fin 8, (p1 &&& (7 : Int32)) = Int32.ofNat n.val := by
  have a := c_mask p1 7 3 (by decide) (by decide)
  have e : ((2 ^ 3 : Nat) : Int) = 8 := rfl
  rw [e] at a
  refine ⟨⟨(p1 &&& 7).toInt.toNat, by omega⟩, ?_⟩
  apply Int32.toInt_inj.mp
  show _ = (Int32.ofNat (p1 &&& 7).toInt.toNat).toInt
  rw [Int32.toInt_ofNat_of_lt (by omega)]
  omega
theorem own_k0 (p1 : Int32) : ¬ ((0 : Int32) < (0 : Int32)) := by decide
theorem own_a1 : ∀ n : Fin 8, ¬ (K1 (Int32.ofNat n.val) < (0 : Int32)) := by decide +kernel
theorem own_k1 (p1 : Int32) : ¬ (K1 (p1 &&& (7 : Int32)) < (0 : Int32)) := by
  obtain ⟨n, hn⟩ := own_low p1
  rw [hn]; exact own_a1 n
theorem own_a2 : ∀ n : Fin 8, ¬ (K2 (Int32.ofNat n.val) < (0 : Int32)) := by decide +kernel
theorem own_k2 (p1 : Int32) : ¬ (K2 (p1 &&& (7 : Int32)) < (0 : Int32)) := by
  obtain ⟨n, hn⟩ := own_low p1
  rw [hn]; exact own_a2 n
theorem own_a3 : ∀ n : Fin 8, ¬ (K3 (Int32.ofNat n.val) < (0 : Int32)) := by decide +kernel
theorem own_k3 (p1 : Int32) : ¬ (K3 (p1 &&& (7 : Int32)) < (0 : Int32)) := by
  obtain ⟨n, hn⟩ := own_low p1
  rw [hn]; exact own_a3 n
theorem own_a4 : ∀ n : Fin 8, ¬ (K4 (Int32.ofNat n.val) < (0 : Int32)) := by decide +kernel
theorem own_k4 (p1 : Int32) : ¬ (K4 (p1 &&& (7 : Int32)) < (0 : Int32)) := by
  obtain ⟨n, hn⟩ := own_low p1
  rw [hn]; exact own_a4 n
theorem own_a5 : ∀ n : Fin 8, ¬ (K5 (Int32.ofNat n.val) < (0 : Int32)) := by decide +kernel
theorem own_k5 (p1 : Int32) : ¬ (K5 (p1 &&& (7 : Int32)) < (0 : Int32)) := by
  obtain ⟨n, hn⟩ := own_low p1
  rw [hn]; exact own_a5 n
theorem own_a6 : ∀ n : Fin 8, ¬ (K6 (Int32.ofNat n.val) < (0 : Int32)) := by decide +kernel
theorem own_k6 (p1 : Int32) : ¬ (K6 (p1 &&& (7 : Int32)) < (0 : Int32)) := by
  obtain ⟨n, hn⟩ := own_low p1
  rw [hn]; exact own_a6 n
theorem pd_6 : parseMethodDescriptor "(Lcom/example/holdfast/holdfast/Backoff;III)I" = some ⟨[(.object "com/example/holdfast/holdfast/Backoff"), .int, .int, .int], some .int⟩ := by decide +kernel
theorem ef_0 (m : MethodId) (x0 : Int32) : entryFrame m #[(.int x0)] maxLocals = mkF m 0 #[.val (.int x0), .unset, .unset, .unset] [] := by first | (simp [entryFrame, mkF, argsToLocals, Value.category, maxLocals]; done) | rfl
def F0 (p1 : Int32) : Int32 := (if (K7 (p1 &&& (7 : Int32))) < (0 : Int32) then (0 : Int32) else (1 : Int32))
theorem own_a7 : ∀ n : Fin 8, ¬ (K7 (Int32.ofNat n.val) < (0 : Int32)) := by decide +kernel
theorem own_law (p1 : Int32) : F0 p1 = 1 := by
  obtain ⟨n, hn⟩ := own_low p1
  rw [F0, hn, if_neg (own_a7 n)]
def Q0 (Z : State) (p1 : Int32) (h0 : Heap) (n0 : Nat) (v : Option Value) (h : Heap) (L : List Loc) : Prop := v = some (.int 1) ∧ Fr n0 L
set_option maxRecDepth 65536 in
set_option maxHeartbeats 40000000 in
theorem rm0 (l : Launch) (Z : State) (a0 : Array Value) (hw : ∀ d ∈ tables_1, d.before a0 Z = true) (ws : List Jvm.Cond) (p1 : Int32) (h0 : Heap) (n0 : Nat) (Z0 : n0 ≤ h0.size) :
    MetFree l x (head1 (Jvm.Cond.code x code maxLocals ret :: ws) room_1) (fun a U => a = #[(.int p1)] ∧ Z.Warmed39 U.vm ∧ U.heap = h0) (fun _ _ _ _ _ => True) (fun _ U o U' => ∃ v L, o = .returned v ∧ Q0 Z p1 h0 n0 v U'.heap L ∧ FrameEnd U o U' L room_1.cells room_1.slots) := by
  refine MetFree.of_bodySF (plainFor_of_name pn_7) hisR ?_
  intro p e s m args below meth c s₁ Bd hml0 hP hK
  obtain ⟨rfl, hZ, hh⟩ := hP
  have hx := Bd.exec
  have hby := Bd.bytes
  have hml : c.maxLocals = 4 := hml0
  have hown : s.vm.findClass "com/example/holdfast/holdfast/BackoffNextMillisPinLaw" = some m.cls := findClass_of_methodNamed Bd.named
  have hnm := (name_of_methodNamed Bd.named Bd.method).1
  have X0 : Stand p l e room_1 s m #[(.int p1)] below meth c s₁ [] 0 0 := Stand.of_body Bd
  have e0 : s₁.heap = h0 := by rw [← hh, Bd.state]; rfl
  have N0 := Fr.nil n0
  have pre0 : ∀ t, Steps p.tables e below (s₁.setTop (mkF m 0 #[.val (.int p1), .unset, .unset, .unset] [])) t → Steps p.tables e below (s₁.setTop (entryFrame m #[(.int p1)] maxLocals)) t := fun t k => castTop (ef_0 m p1) k
  obtain ⟨T1, h1, X1, e1, E1, A1, D1, -, st1⟩ := newO X0 hx hZ hown (hw _ (List.mem_of_getElem? (i := 0) rfl)) (hw _ (List.mem_of_getElem? (i := 1) rfl)) (hw _ (List.mem_of_getElem? (i := 2) rfl)) e0 (g := (mkF m 0 #[.val (.int p1), .unset, .unset, .unset] [])) rfl (hb hby at_0) (by decide) (by decide)
  obtain ⟨b1, g1⟩ : ∃ z, z = h0.size := ⟨_, rfl⟩
  rw [← g1] at A1 D1 st1
  have g_b1 : n0 ≤ b1 := Nat.le_trans Z0 (Nat.le_of_eq g1.symm)
  have F_nextMillis_b1 : Fld Z h1 b1 "com/example/holdfast/holdfast/Backoff" "nextMillis" "J" (.long (0 : Int64)) := D1 (Or.inl (hw _ (List.mem_of_getElem? (i := 11) rfl))) (ty := .long) (by decide)
  have Z1 := Nat.le_trans Z0 E1.1
  obtain ⟨_, _, ⟨T2, L2, k2, n2⟩, -, X2, ⟨Lc2, hQ2, l2, y2, z2⟩, st2⟩ := X1.specialBack hx (y := (⟨"com/example/holdfast/holdfast/Backoff", "<init>", "()V"⟩ : MethodName)) rfl hown (mvT hZ (hw _ (List.mem_of_getElem? (i := 3) rfl))) (mvT hZ (hw _ (List.mem_of_getElem? (i := 4) rfl))) (mvT hZ (hw _ (List.mem_of_getElem? (i := 5) rfl))) (by decide) (backOf (W := 1) (rm1 l Z a0 hw [] b1 (.long (0 : Int64)) h1 n0 Z1 A1 F_nextMillis_b1 g_b1) hZ (hw _ (List.mem_of_getElem? (i := 5) rfl)) (hw _ (List.mem_of_getElem? (i := 2) rfl)) (by decide) (by decide)) (g := (mkF m 4 #[.val (.int p1), .unset, .unset, .unset] [(.ref b1), (.ref b1)])) rfl (by rw [hml]; rfl) (Steps.refl _) (a := b1) (argsL := []) (rest := [(.ref b1)]) (lenOf pd_3 rfl) rfl (by show 2 * 0 + _ ≤ _; exact Nat.le_of_eq rfl) (hb hby at_4) (fun _ _ => ⟨rfl, e1, (by decide : 1 + 0 ≤ _), (by decide : 1 + 0 ≤ _)⟩)
  dsimp only [Pt.U, Pt.locs, Pt.cells, Pt.slots] at X2 l2 y2 z2 st2 hQ2
  subst l2 y2 z2
  obtain ⟨rfl, N2q, K2q, Fn2⟩ := hQ2
  have N2 := Fr.app N0 N2q
  have Z2 := Nat.le_trans Z1 K2q.1
  have c2_1 := A1.keep K2q
  obtain ⟨_, _, ⟨T3, L3, k3, n3⟩, -, X3, ⟨Lc3, hQ3, l3, y3, z3⟩, st3⟩ := Jvm.LawKit.callS X2 hx (y := (⟨"com/example/holdfast/holdfast/BackoffNextMillisPinLaw", "step", "(Lcom/example/holdfast/holdfast/Backoff;III)I"⟩ : MethodName)) hown (mvT hZ (hw _ (List.mem_of_getElem? (i := 12) rfl))) (mvT hZ (hw _ (List.mem_of_getElem? (i := 13) rfl))) (mvT hZ (hw _ (List.mem_of_getElem? (i := 14) rfl))) (mvT hZ (hw _ (List.mem_of_getElem? (i := 15) rfl))) (by decide) (backOf (W := 0) (rm3 l Z a0 hw [] b1 (0 : Int32) (p1 &&& (7 : Int32)) (0 : Int32) (100 : Int64) T2.heap n0 Z2 c2_1 Fn2 g_b1 (own_k0 p1)) hZ (hw _ (List.mem_of_getElem? (i := 15) rfl)) (hw _ (List.mem_of_getElem? (i := 14) rfl)) (by decide) (by decide)) (g := (mkF m 19 #[.val (.int p1), .val (.ref b1), .val (.int (p1 &&& (7 : Int32))), .val (.int (0 : Int32))] [(.int (0 : Int32)), (.int (p1 &&& (7 : Int32))), (.int (0 : Int32)), (.ref b1)])) rfl (by rw [hml]; rfl) (argsL := [(.ref b1), (.int (0 : Int32)), (.int (p1 &&& (7 : Int32))), (.int (0 : Int32))]) (rest := []) (lenOf pd_6 rfl) rfl (by show 2 * 0 + _ ≤ _; exact Nat.le_of_eq rfl) (hb hby at_19) (fun _ _ => ⟨rfl, rfl, (by decide : 1 + 0 ≤ _), (by decide : 1 + 0 ≤ _)⟩)
  dsimp only [Pt.U, Pt.locs, Pt.cells, Pt.slots] at X3 l3 y3 z3 st3 hQ3
  subst l3 y3 z3
  obtain ⟨rfl, N3q, K3q, Fn3⟩ := hQ3
  have N3 := Fr.app N2 N3q
  have Z3 := Nat.le_trans Z2 K3q.1
  have c3_1 := c2_1.keep K3q
  obtain ⟨_, _, ⟨T4, L4, k4, n4⟩, -, X4, ⟨Lc4, hQ4, l4, y4, z4⟩, st4⟩ := Jvm.LawKit.callS X3 hx (y := (⟨"com/example/holdfast/holdfast/BackoffNextMillisPinLaw", "step", "(Lcom/example/holdfast/holdfast/Backoff;III)I"⟩ : MethodName)) hown (mvT hZ (hw _ (List.mem_of_getElem? (i := 12) rfl))) (mvT hZ (hw _ (List.mem_of_getElem? (i := 13) rfl))) (mvT hZ (hw _ (List.mem_of_getElem? (i := 14) rfl))) (mvT hZ (hw _ (List.mem_of_getElem? (i := 15) rfl))) (by decide) (backOf (W := 0) (rm3 l Z a0 hw [] b1 (K1 (p1 &&& (7 : Int32))) (p1 &&& (7 : Int32)) (1 : Int32) (W1 (p1 &&& (7 : Int32))) T3.heap n0 Z3 c3_1 Fn3 g_b1 (own_k1 p1)) hZ (hw _ (List.mem_of_getElem? (i := 15) rfl)) (hw _ (List.mem_of_getElem? (i := 14) rfl)) (by decide) (by decide)) (g := (mkF m 27 #[.val (.int p1), .val (.ref b1), .val (.int (p1 &&& (7 : Int32))), .val (.int (K1 (p1 &&& (7 : Int32))))] [(.int (1 : Int32)), (.int (p1 &&& (7 : Int32))), (.int (K1 (p1 &&& (7 : Int32)))), (.ref b1)])) rfl (by rw [hml]; rfl) (argsL := [(.ref b1), (.int (K1 (p1 &&& (7 : Int32)))), (.int (p1 &&& (7 : Int32))), (.int (1 : Int32))]) (rest := []) (lenOf pd_6 rfl) rfl (by show 2 * 0 + _ ≤ _; exact Nat.le_of_eq rfl) (hb hby at_27) (fun _ _ => ⟨rfl, rfl, (by decide : 1 + 0 ≤ _), (by decide : 1 + 0 ≤ _)⟩)
  dsimp only [Pt.U, Pt.locs, Pt.cells, Pt.slots] at X4 l4 y4 z4 st4 hQ4
  subst l4 y4 z4
  obtain ⟨rfl, N4q, K4q, Fn4⟩ := hQ4
  have N4 := Fr.app N3 N4q
  have Z4 := Nat.le_trans Z3 K4q.1
  have c4_1 := c3_1.keep K4q
  obtain ⟨_, _, ⟨T5, L5, k5, n5⟩, -, X5, ⟨Lc5, hQ5, l5, y5, z5⟩, st5⟩ := Jvm.LawKit.callS X4 hx (y := (⟨"com/example/holdfast/holdfast/BackoffNextMillisPinLaw", "step", "(Lcom/example/holdfast/holdfast/Backoff;III)I"⟩ : MethodName)) hown (mvT hZ (hw _ (List.mem_of_getElem? (i := 12) rfl))) (mvT hZ (hw _ (List.mem_of_getElem? (i := 13) rfl))) (mvT hZ (hw _ (List.mem_of_getElem? (i := 14) rfl))) (mvT hZ (hw _ (List.mem_of_getElem? (i := 15) rfl))) (by decide) (backOf (W := 0) (rm3 l Z a0 hw [] b1 (K2 (p1 &&& (7 : Int32))) (p1 &&& (7 : Int32)) (2 : Int32) (W2 (p1 &&& (7 : Int32))) T4.heap n0 Z4 c4_1 Fn4 g_b1 (own_k2 p1)) hZ (hw _ (List.mem_of_getElem? (i := 15) rfl)) (hw _ (List.mem_of_getElem? (i := 14) rfl)) (by decide) (by decide)) (g := (mkF m 35 #[.val (.int p1), .val (.ref b1), .val (.int (p1 &&& (7 : Int32))), .val (.int (K2 (p1 &&& (7 : Int32))))] [(.int (2 : Int32)), (.int (p1 &&& (7 : Int32))), (.int (K2 (p1 &&& (7 : Int32)))), (.ref b1)])) rfl (by rw [hml]; rfl) (argsL := [(.ref b1), (.int (K2 (p1 &&& (7 : Int32)))), (.int (p1 &&& (7 : Int32))), (.int (2 : Int32))]) (rest := []) (lenOf pd_6 rfl) rfl (by show 2 * 0 + _ ≤ _; exact Nat.le_of_eq rfl) (hb hby at_35) (fun _ _ => ⟨rfl, rfl, (by decide : 1 + 0 ≤ _), (by decide : 1 + 0 ≤ _)⟩)
  dsimp only [Pt.U, Pt.locs, Pt.cells, Pt.slots] at X5 l5 y5 z5 st5 hQ5
  subst l5 y5 z5
  obtain ⟨rfl, N5q, K5q, Fn5⟩ := hQ5
  have N5 := Fr.app N4 N5q
  have Z5 := Nat.le_trans Z4 K5q.1
  have c5_1 := c4_1.keep K5q
  obtain ⟨_, _, ⟨T6, L6, k6, n6⟩, -, X6, ⟨Lc6, hQ6, l6, y6, z6⟩, st6⟩ := Jvm.LawKit.callS X5 hx (y := (⟨"com/example/holdfast/holdfast/BackoffNextMillisPinLaw", "step", "(Lcom/example/holdfast/holdfast/Backoff;III)I"⟩ : MethodName)) hown (mvT hZ (hw _ (List.mem_of_getElem? (i := 12) rfl))) (mvT hZ (hw _ (List.mem_of_getElem? (i := 13) rfl))) (mvT hZ (hw _ (List.mem_of_getElem? (i := 14) rfl))) (mvT hZ (hw _ (List.mem_of_getElem? (i := 15) rfl))) (by decide) (backOf (W := 0) (rm3 l Z a0 hw [] b1 (K3 (p1 &&& (7 : Int32))) (p1 &&& (7 : Int32)) (3 : Int32) (W3 (p1 &&& (7 : Int32))) T5.heap n0 Z5 c5_1 Fn5 g_b1 (own_k3 p1)) hZ (hw _ (List.mem_of_getElem? (i := 15) rfl)) (hw _ (List.mem_of_getElem? (i := 14) rfl)) (by decide) (by decide)) (g := (mkF m 43 #[.val (.int p1), .val (.ref b1), .val (.int (p1 &&& (7 : Int32))), .val (.int (K3 (p1 &&& (7 : Int32))))] [(.int (3 : Int32)), (.int (p1 &&& (7 : Int32))), (.int (K3 (p1 &&& (7 : Int32)))), (.ref b1)])) rfl (by rw [hml]; rfl) (argsL := [(.ref b1), (.int (K3 (p1 &&& (7 : Int32)))), (.int (p1 &&& (7 : Int32))), (.int (3 : Int32))]) (rest := []) (lenOf pd_6 rfl) rfl (by show 2 * 0 + _ ≤ _; exact Nat.le_of_eq rfl) (hb hby at_43) (fun _ _ => ⟨rfl, rfl, (by decide : 1 + 0 ≤ _), (by decide : 1 + 0 ≤ _)⟩)
  dsimp only [Pt.U, Pt.locs, Pt.cells, Pt.slots] at X6 l6 y6 z6 st6 hQ6
  subst l6 y6 z6
  obtain ⟨rfl, N6q, K6q, Fn6⟩ := hQ6
  have N6 := Fr.app N5 N6q
  have Z6 := Nat.le_trans Z5 K6q.1
  have c6_1 := c5_1.keep K6q
  obtain ⟨_, _, ⟨T7, L7, k7, n7⟩, -, X7, ⟨Lc7, hQ7, l7, y7, z7⟩, st7⟩ := Jvm.LawKit.callS X6 hx (y := (⟨"com/example/holdfast/holdfast/BackoffNextMillisPinLaw", "step", "(Lcom/example/holdfast/holdfast/Backoff;III)I"⟩ : MethodName)) hown (mvT hZ (hw _ (List.mem_of_getElem? (i := 12) rfl))) (mvT hZ (hw _ (List.mem_of_getElem? (i := 13) rfl))) (mvT hZ (hw _ (List.mem_of_getElem? (i := 14) rfl))) (mvT hZ (hw _ (List.mem_of_getElem? (i := 15) rfl))) (by decide) (backOf (W := 0) (rm3 l Z a0 hw [] b1 (K4 (p1 &&& (7 : Int32))) (p1 &&& (7 : Int32)) (4 : Int32) (W4 (p1 &&& (7 : Int32))) T6.heap n0 Z6 c6_1 Fn6 g_b1 (own_k4 p1)) hZ (hw _ (List.mem_of_getElem? (i := 15) rfl)) (hw _ (List.mem_of_getElem? (i := 14) rfl)) (by decide) (by decide)) (g := (mkF m 51 #[.val (.int p1), .val (.ref b1), .val (.int (p1 &&& (7 : Int32))), .val (.int (K4 (p1 &&& (7 : Int32))))] [(.int (4 : Int32)), (.int (p1 &&& (7 : Int32))), (.int (K4 (p1 &&& (7 : Int32)))), (.ref b1)])) rfl (by rw [hml]; rfl) (argsL := [(.ref b1), (.int (K4 (p1 &&& (7 : Int32)))), (.int (p1 &&& (7 : Int32))), (.int (4 : Int32))]) (rest := []) (lenOf pd_6 rfl) rfl (by show 2 * 0 + _ ≤ _; exact Nat.le_of_eq rfl) (hb hby at_51) (fun _ _ => ⟨rfl, rfl, (by decide : 1 + 0 ≤ _), (by decide : 1 + 0 ≤ _)⟩)
  dsimp only [Pt.U, Pt.locs, Pt.cells, Pt.slots] at X7 l7 y7 z7 st7 hQ7
  subst l7 y7 z7
  obtain ⟨rfl, N7q, K7q, Fn7⟩ := hQ7
  have N7 := Fr.app N6 N7q
  have Z7 := Nat.le_trans Z6 K7q.1
  have c7_1 := c6_1.keep K7q
  obtain ⟨_, _, ⟨T8, L8, k8, n8⟩, -, X8, ⟨Lc8, hQ8, l8, y8, z8⟩, st8⟩ := Jvm.LawKit.callS X7 hx (y := (⟨"com/example/holdfast/holdfast/BackoffNextMillisPinLaw", "step", "(Lcom/example/holdfast/holdfast/Backoff;III)I"⟩ : MethodName)) hown (mvT hZ (hw _ (List.mem_of_getElem? (i := 12) rfl))) (mvT hZ (hw _ (List.mem_of_getElem? (i := 13) rfl))) (mvT hZ (hw _ (List.mem_of_getElem? (i := 14) rfl))) (mvT hZ (hw _ (List.mem_of_getElem? (i := 15) rfl))) (by decide) (backOf (W := 0) (rm3 l Z a0 hw [] b1 (K5 (p1 &&& (7 : Int32))) (p1 &&& (7 : Int32)) (5 : Int32) (W5 (p1 &&& (7 : Int32))) T7.heap n0 Z7 c7_1 Fn7 g_b1 (own_k5 p1)) hZ (hw _ (List.mem_of_getElem? (i := 15) rfl)) (hw _ (List.mem_of_getElem? (i := 14) rfl)) (by decide) (by decide)) (g := (mkF m 59 #[.val (.int p1), .val (.ref b1), .val (.int (p1 &&& (7 : Int32))), .val (.int (K5 (p1 &&& (7 : Int32))))] [(.int (5 : Int32)), (.int (p1 &&& (7 : Int32))), (.int (K5 (p1 &&& (7 : Int32)))), (.ref b1)])) rfl (by rw [hml]; rfl) (argsL := [(.ref b1), (.int (K5 (p1 &&& (7 : Int32)))), (.int (p1 &&& (7 : Int32))), (.int (5 : Int32))]) (rest := []) (lenOf pd_6 rfl) rfl (by show 2 * 0 + _ ≤ _; exact Nat.le_of_eq rfl) (hb hby at_59) (fun _ _ => ⟨rfl, rfl, (by decide : 1 + 0 ≤ _), (by decide : 1 + 0 ≤ _)⟩)
  dsimp only [Pt.U, Pt.locs, Pt.cells, Pt.slots] at X8 l8 y8 z8 st8 hQ8
  subst l8 y8 z8
  obtain ⟨rfl, N8q, K8q, Fn8⟩ := hQ8
  have N8 := Fr.app N7 N8q
  have Z8 := Nat.le_trans Z7 K8q.1
  have c8_1 := c7_1.keep K8q
  obtain ⟨_, _, ⟨T9, L9, k9, n9⟩, -, X9, ⟨Lc9, hQ9, l9, y9, z9⟩, st9⟩ := Jvm.LawKit.callS X8 hx (y := (⟨"com/example/holdfast/holdfast/BackoffNextMillisPinLaw", "step", "(Lcom/example/holdfast/holdfast/Backoff;III)I"⟩ : MethodName)) hown (mvT hZ (hw _ (List.mem_of_getElem? (i := 12) rfl))) (mvT hZ (hw _ (List.mem_of_getElem? (i := 13) rfl))) (mvT hZ (hw _ (List.mem_of_getElem? (i := 14) rfl))) (mvT hZ (hw _ (List.mem_of_getElem? (i := 15) rfl))) (by decide) (backOf (W := 0) (rm3 l Z a0 hw [] b1 (K6 (p1 &&& (7 : Int32))) (p1 &&& (7 : Int32)) (6 : Int32) (W6 (p1 &&& (7 : Int32))) T8.heap n0 Z8 c8_1 Fn8 g_b1 (own_k6 p1)) hZ (hw _ (List.mem_of_getElem? (i := 15) rfl)) (hw _ (List.mem_of_getElem? (i := 14) rfl)) (by decide) (by decide)) (g := (mkF m 68 #[.val (.int p1), .val (.ref b1), .val (.int (p1 &&& (7 : Int32))), .val (.int (K6 (p1 &&& (7 : Int32))))] [(.int (6 : Int32)), (.int (p1 &&& (7 : Int32))), (.int (K6 (p1 &&& (7 : Int32)))), (.ref b1)])) rfl (by rw [hml]; rfl) (argsL := [(.ref b1), (.int (K6 (p1 &&& (7 : Int32)))), (.int (p1 &&& (7 : Int32))), (.int (6 : Int32))]) (rest := []) (lenOf pd_6 rfl) rfl (by show 2 * 0 + _ ≤ _; exact Nat.le_of_eq rfl) (hb hby at_68) (fun _ _ => ⟨rfl, rfl, (by decide : 1 + 0 ≤ _), (by decide : 1 + 0 ≤ _)⟩)
  dsimp only [Pt.U, Pt.locs, Pt.cells, Pt.slots] at X9 l9 y9 z9 st9 hQ9
  subst l9 y9 z9
  obtain ⟨rfl, N9q, K9q, Fn9⟩ := hQ9
  have N9 := Fr.app N8 N9q
  have Z9 := Nat.le_trans Z8 K9q.1
  have c9_1 := c8_1.keep K9q
  obtain ⟨fs, hr, hrun, hended, hW, hsame⟩ := X9.leave (v := some (.int (if (K7 (p1 &&& (7 : Int32))) < (0 : Int32) then (0 : Int32) else (1 : Int32)))) (fun h => by rw [Bd.returns] at h; cases h)
  refine ⟨_, _, pre0 _ ?_, hrun, hended, _, _, rfl, ?_, ⟨_, rfl⟩, hW, hsame.mono (by decide) (by decide)⟩
  · show Steps p.tables e below (s₁.setTop (mkF m 0 #[.val (.int p1), .unset, .unset, .unset] [])) _
    refine st1 _ ?_
    show Steps p.tables e below (T1.setTop (mkF m 3 #[.val (.int p1), .unset, .unset, .unset] [(.ref b1)])) _
    refine XS.dup X1.here hx rfl (hb hby at_3) rfl rfl ?_
    show Steps p.tables e below (T1.setTop (mkF m 4 #[.val (.int p1), .unset, .unset, .unset] [(.ref b1), (.ref b1)])) _
    refine st2.trans ?_
    show Steps p.tables e below (T2.setTop (mkF m 7 #[.val (.int p1), .unset, .unset, .unset] [(.ref b1)])) _
    refine XS.astoreN X2.here hx rfl (hb hby at_7) rfl rfl (l' := #[.val (.int p1), .val (.ref b1), .unset, .unset]) rfl ?_
    show Steps p.tables e below (T2.setTop (mkF m 8 #[.val (.int p1), .val (.ref b1), .unset, .unset] [])) _
    refine XS.iloadN X2.here hx rfl (hb hby at_8) rfl ?_
    show Steps p.tables e below (T2.setTop (mkF m 9 #[.val (.int p1), .val (.ref b1), .unset, .unset] [(.int p1)])) _
    refine XS.bipush X2.here hx rfl (hb hby at_9) ?_
    show Steps p.tables e below (T2.setTop (mkF m 11 #[.val (.int p1), .val (.ref b1), .unset, .unset] [(.int (7 : Int32)), (.int p1)])) _
    refine XS.iand X2.here hx rfl (hb hby at_11) rfl ?_
    show Steps p.tables e below (T2.setTop (mkF m 12 #[.val (.int p1), .val (.ref b1), .unset, .unset] [(.int (p1 &&& (7 : Int32)))])) _
    refine XS.istoreN X2.here hx rfl (hb hby at_12) rfl (l' := #[.val (.int p1), .val (.ref b1), .val (.int (p1 &&& (7 : Int32))), .unset]) rfl ?_
    show Steps p.tables e below (T2.setTop (mkF m 13 #[.val (.int p1), .val (.ref b1), .val (.int (p1 &&& (7 : Int32))), .unset] [])) _
    refine XS.iconst X2.here hx rfl (hb hby at_13) ?_
    show Steps p.tables e below (T2.setTop (mkF m 14 #[.val (.int p1), .val (.ref b1), .val (.int (p1 &&& (7 : Int32))), .unset] [(.int (0 : Int32))])) _
    refine XS.istoreN X2.here hx rfl (hb hby at_14) rfl (l' := #[.val (.int p1), .val (.ref b1), .val (.int (p1 &&& (7 : Int32))), .val (.int (0 : Int32))]) rfl ?_
    show Steps p.tables e below (T2.setTop (mkF m 15 #[.val (.int p1), .val (.ref b1), .val (.int (p1 &&& (7 : Int32))), .val (.int (0 : Int32))] [])) _
    refine XS.aloadN X2.here hx rfl (hb hby at_15) rfl rfl ?_
    show Steps p.tables e below (T2.setTop (mkF m 16 #[.val (.int p1), .val (.ref b1), .val (.int (p1 &&& (7 : Int32))), .val (.int (0 : Int32))] [(.ref b1)])) _
    refine XS.iloadN X2.here hx rfl (hb hby at_16) rfl ?_
    show Steps p.tables e below (T2.setTop (mkF m 17 #[.val (.int p1), .val (.ref b1), .val (.int (p1 &&& (7 : Int32))), .val (.int (0 : Int32))] [(.int (0 : Int32)), (.ref b1)])) _
    refine XS.iloadN X2.here hx rfl (hb hby at_17) rfl ?_
    show Steps p.tables e below (T2.setTop (mkF m 18 #[.val (.int p1), .val (.ref b1), .val (.int (p1 &&& (7 : Int32))), .val (.int (0 : Int32))] [(.int (p1 &&& (7 : Int32))), (.int (0 : Int32)), (.ref b1)])) _
    refine XS.iconst X2.here hx rfl (hb hby at_18) ?_
    show Steps p.tables e below (T2.setTop (mkF m 19 #[.val (.int p1), .val (.ref b1), .val (.int (p1 &&& (7 : Int32))), .val (.int (0 : Int32))] [(.int (0 : Int32)), (.int (p1 &&& (7 : Int32))), (.int (0 : Int32)), (.ref b1)])) _
    refine st3 _ ?_
    show Steps p.tables e below (T3.setTop (mkF m 22 #[.val (.int p1), .val (.ref b1), .val (.int (p1 &&& (7 : Int32))), .val (.int (0 : Int32))] [(.int (K1 (p1 &&& (7 : Int32))))])) _
    refine XS.istoreN X3.here hx rfl (hb hby at_22) rfl (l' := #[.val (.int p1), .val (.ref b1), .val (.int (p1 &&& (7 : Int32))), .val (.int (K1 (p1 &&& (7 : Int32))))]) rfl ?_
    show Steps p.tables e below (T3.setTop (mkF m 23 #[.val (.int p1), .val (.ref b1), .val (.int (p1 &&& (7 : Int32))), .val (.int (K1 (p1 &&& (7 : Int32))))] [])) _
    refine XS.aloadN X3.here hx rfl (hb hby at_23) rfl rfl ?_
    show Steps p.tables e below (T3.setTop (mkF m 24 #[.val (.int p1), .val (.ref b1), .val (.int (p1 &&& (7 : Int32))), .val (.int (K1 (p1 &&& (7 : Int32))))] [(.ref b1)])) _
    refine XS.iloadN X3.here hx rfl (hb hby at_24) rfl ?_
    show Steps p.tables e below (T3.setTop (mkF m 25 #[.val (.int p1), .val (.ref b1), .val (.int (p1 &&& (7 : Int32))), .val (.int (K1 (p1 &&& (7 : Int32))))] [(.int (K1 (p1 &&& (7 : Int32)))), (.ref b1)])) _
    refine XS.iloadN X3.here hx rfl (hb hby at_25) rfl ?_
    show Steps p.tables e below (T3.setTop (mkF m 26 #[.val (.int p1), .val (.ref b1), .val (.int (p1 &&& (7 : Int32))), .val (.int (K1 (p1 &&& (7 : Int32))))] [(.int (p1 &&& (7 : Int32))), (.int (K1 (p1 &&& (7 : Int32)))), (.ref b1)])) _
    refine XS.iconst X3.here hx rfl (hb hby at_26) ?_
    show Steps p.tables e below (T3.setTop (mkF m 27 #[.val (.int p1), .val (.ref b1), .val (.int (p1 &&& (7 : Int32))), .val (.int (K1 (p1 &&& (7 : Int32))))] [(.int (1 : Int32)), (.int (p1 &&& (7 : Int32))), (.int (K1 (p1 &&& (7 : Int32)))), (.ref b1)])) _
    refine st4 _ ?_
    show Steps p.tables e below (T4.setTop (mkF m 30 #[.val (.int p1), .val (.ref b1), .val (.int (p1 &&& (7 : Int32))), .val (.int (K1 (p1 &&& (7 : Int32))))] [(.int (K2 (p1 &&& (7 : Int32))))])) _
    refine XS.istoreN X4.here hx rfl (hb hby at_30) rfl (l' := #[.val (.int p1), .val (.ref b1), .val (.int (p1 &&& (7 : Int32))), .val (.int (K2 (p1 &&& (7 : Int32))))]) rfl ?_
    show Steps p.tables e below (T4.setTop (mkF m 31 #[.val (.int p1), .val (.ref b1), .val (.int (p1 &&& (7 : Int32))), .val (.int (K2 (p1 &&& (7 : Int32))))] [])) _
    refine XS.aloadN X4.here hx rfl (hb hby at_31) rfl rfl ?_
    show Steps p.tables e below (T4.setTop (mkF m 32 #[.val (.int p1), .val (.ref b1), .val (.int (p1 &&& (7 : Int32))), .val (.int (K2 (p1 &&& (7 : Int32))))] [(.ref b1)])) _
    refine XS.iloadN X4.here hx rfl (hb hby at_32) rfl ?_
    show Steps p.tables e below (T4.setTop (mkF m 33 #[.val (.int p1), .val (.ref b1), .val (.int (p1 &&& (7 : Int32))), .val (.int (K2 (p1 &&& (7 : Int32))))] [(.int (K2 (p1 &&& (7 : Int32)))), (.ref b1)])) _
    refine XS.iloadN X4.here hx rfl (hb hby at_33) rfl ?_
    show Steps p.tables e below (T4.setTop (mkF m 34 #[.val (.int p1), .val (.ref b1), .val (.int (p1 &&& (7 : Int32))), .val (.int (K2 (p1 &&& (7 : Int32))))] [(.int (p1 &&& (7 : Int32))), (.int (K2 (p1 &&& (7 : Int32)))), (.ref b1)])) _
    refine XS.iconst X4.here hx rfl (hb hby at_34) ?_
    show Steps p.tables e below (T4.setTop (mkF m 35 #[.val (.int p1), .val (.ref b1), .val (.int (p1 &&& (7 : Int32))), .val (.int (K2 (p1 &&& (7 : Int32))))] [(.int (2 : Int32)), (.int (p1 &&& (7 : Int32))), (.int (K2 (p1 &&& (7 : Int32)))), (.ref b1)])) _
    refine st5 _ ?_
    show Steps p.tables e below (T5.setTop (mkF m 38 #[.val (.int p1), .val (.ref b1), .val (.int (p1 &&& (7 : Int32))), .val (.int (K2 (p1 &&& (7 : Int32))))] [(.int (K3 (p1 &&& (7 : Int32))))])) _
    refine XS.istoreN X5.here hx rfl (hb hby at_38) rfl (l' := #[.val (.int p1), .val (.ref b1), .val (.int (p1 &&& (7 : Int32))), .val (.int (K3 (p1 &&& (7 : Int32))))]) rfl ?_
    show Steps p.tables e below (T5.setTop (mkF m 39 #[.val (.int p1), .val (.ref b1), .val (.int (p1 &&& (7 : Int32))), .val (.int (K3 (p1 &&& (7 : Int32))))] [])) _
    refine XS.aloadN X5.here hx rfl (hb hby at_39) rfl rfl ?_
    show Steps p.tables e below (T5.setTop (mkF m 40 #[.val (.int p1), .val (.ref b1), .val (.int (p1 &&& (7 : Int32))), .val (.int (K3 (p1 &&& (7 : Int32))))] [(.ref b1)])) _
    refine XS.iloadN X5.here hx rfl (hb hby at_40) rfl ?_
    show Steps p.tables e below (T5.setTop (mkF m 41 #[.val (.int p1), .val (.ref b1), .val (.int (p1 &&& (7 : Int32))), .val (.int (K3 (p1 &&& (7 : Int32))))] [(.int (K3 (p1 &&& (7 : Int32)))), (.ref b1)])) _
    refine XS.iloadN X5.here hx rfl (hb hby at_41) rfl ?_
    show Steps p.tables e below (T5.setTop (mkF m 42 #[.val (.int p1), .val (.ref b1), .val (.int (p1 &&& (7 : Int32))), .val (.int (K3 (p1 &&& (7 : Int32))))] [(.int (p1 &&& (7 : Int32))), (.int (K3 (p1 &&& (7 : Int32)))), (.ref b1)])) _
    refine XS.iconst X5.here hx rfl (hb hby at_42) ?_
    show Steps p.tables e below (T5.setTop (mkF m 43 #[.val (.int p1), .val (.ref b1), .val (.int (p1 &&& (7 : Int32))), .val (.int (K3 (p1 &&& (7 : Int32))))] [(.int (3 : Int32)), (.int (p1 &&& (7 : Int32))), (.int (K3 (p1 &&& (7 : Int32)))), (.ref b1)])) _
    refine st6 _ ?_
    show Steps p.tables e below (T6.setTop (mkF m 46 #[.val (.int p1), .val (.ref b1), .val (.int (p1 &&& (7 : Int32))), .val (.int (K3 (p1 &&& (7 : Int32))))] [(.int (K4 (p1 &&& (7 : Int32))))])) _
    refine XS.istoreN X6.here hx rfl (hb hby at_46) rfl (l' := #[.val (.int p1), .val (.ref b1), .val (.int (p1 &&& (7 : Int32))), .val (.int (K4 (p1 &&& (7 : Int32))))]) rfl ?_
    show Steps p.tables e below (T6.setTop (mkF m 47 #[.val (.int p1), .val (.ref b1), .val (.int (p1 &&& (7 : Int32))), .val (.int (K4 (p1 &&& (7 : Int32))))] [])) _
    refine XS.aloadN X6.here hx rfl (hb hby at_47) rfl rfl ?_
    show Steps p.tables e below (T6.setTop (mkF m 48 #[.val (.int p1), .val (.ref b1), .val (.int (p1 &&& (7 : Int32))), .val (.int (K4 (p1 &&& (7 : Int32))))] [(.ref b1)])) _
    refine XS.iloadN X6.here hx rfl (hb hby at_48) rfl ?_
    show Steps p.tables e below (T6.setTop (mkF m 49 #[.val (.int p1), .val (.ref b1), .val (.int (p1 &&& (7 : Int32))), .val (.int (K4 (p1 &&& (7 : Int32))))] [(.int (K4 (p1 &&& (7 : Int32)))), (.ref b1)])) _
    refine XS.iloadN X6.here hx rfl (hb hby at_49) rfl ?_
    show Steps p.tables e below (T6.setTop (mkF m 50 #[.val (.int p1), .val (.ref b1), .val (.int (p1 &&& (7 : Int32))), .val (.int (K4 (p1 &&& (7 : Int32))))] [(.int (p1 &&& (7 : Int32))), (.int (K4 (p1 &&& (7 : Int32)))), (.ref b1)])) _
    refine XS.iconst X6.here hx rfl (hb hby at_50) ?_
    show Steps p.tables e below (T6.setTop (mkF m 51 #[.val (.int p1), .val (.ref b1), .val (.int (p1 &&& (7 : Int32))), .val (.int (K4 (p1 &&& (7 : Int32))))] [(.int (4 : Int32)), (.int (p1 &&& (7 : Int32))), (.int (K4 (p1 &&& (7 : Int32)))), (.ref b1)])) _
    refine st7 _ ?_
    show Steps p.tables e below (T7.setTop (mkF m 54 #[.val (.int p1), .val (.ref b1), .val (.int (p1 &&& (7 : Int32))), .val (.int (K4 (p1 &&& (7 : Int32))))] [(.int (K5 (p1 &&& (7 : Int32))))])) _
    refine XS.istoreN X7.here hx rfl (hb hby at_54) rfl (l' := #[.val (.int p1), .val (.ref b1), .val (.int (p1 &&& (7 : Int32))), .val (.int (K5 (p1 &&& (7 : Int32))))]) rfl ?_
    show Steps p.tables e below (T7.setTop (mkF m 55 #[.val (.int p1), .val (.ref b1), .val (.int (p1 &&& (7 : Int32))), .val (.int (K5 (p1 &&& (7 : Int32))))] [])) _
    refine XS.aloadN X7.here hx rfl (hb hby at_55) rfl rfl ?_
    show Steps p.tables e below (T7.setTop (mkF m 56 #[.val (.int p1), .val (.ref b1), .val (.int (p1 &&& (7 : Int32))), .val (.int (K5 (p1 &&& (7 : Int32))))] [(.ref b1)])) _
    refine XS.iloadN X7.here hx rfl (hb hby at_56) rfl ?_
    show Steps p.tables e below (T7.setTop (mkF m 57 #[.val (.int p1), .val (.ref b1), .val (.int (p1 &&& (7 : Int32))), .val (.int (K5 (p1 &&& (7 : Int32))))] [(.int (K5 (p1 &&& (7 : Int32)))), (.ref b1)])) _
    refine XS.iloadN X7.here hx rfl (hb hby at_57) rfl ?_
    show Steps p.tables e below (T7.setTop (mkF m 58 #[.val (.int p1), .val (.ref b1), .val (.int (p1 &&& (7 : Int32))), .val (.int (K5 (p1 &&& (7 : Int32))))] [(.int (p1 &&& (7 : Int32))), (.int (K5 (p1 &&& (7 : Int32)))), (.ref b1)])) _
    refine XS.iconst X7.here hx rfl (hb hby at_58) ?_
    show Steps p.tables e below (T7.setTop (mkF m 59 #[.val (.int p1), .val (.ref b1), .val (.int (p1 &&& (7 : Int32))), .val (.int (K5 (p1 &&& (7 : Int32))))] [(.int (5 : Int32)), (.int (p1 &&& (7 : Int32))), (.int (K5 (p1 &&& (7 : Int32)))), (.ref b1)])) _
    refine st8 _ ?_
    show Steps p.tables e below (T8.setTop (mkF m 62 #[.val (.int p1), .val (.ref b1), .val (.int (p1 &&& (7 : Int32))), .val (.int (K5 (p1 &&& (7 : Int32))))] [(.int (K6 (p1 &&& (7 : Int32))))])) _
    refine XS.istoreN X8.here hx rfl (hb hby at_62) rfl (l' := #[.val (.int p1), .val (.ref b1), .val (.int (p1 &&& (7 : Int32))), .val (.int (K6 (p1 &&& (7 : Int32))))]) rfl ?_
    show Steps p.tables e below (T8.setTop (mkF m 63 #[.val (.int p1), .val (.ref b1), .val (.int (p1 &&& (7 : Int32))), .val (.int (K6 (p1 &&& (7 : Int32))))] [])) _
    refine XS.aloadN X8.here hx rfl (hb hby at_63) rfl rfl ?_
    show Steps p.tables e below (T8.setTop (mkF m 64 #[.val (.int p1), .val (.ref b1), .val (.int (p1 &&& (7 : Int32))), .val (.int (K6 (p1 &&& (7 : Int32))))] [(.ref b1)])) _
    refine XS.iloadN X8.here hx rfl (hb hby at_64) rfl ?_
    show Steps p.tables e below (T8.setTop (mkF m 65 #[.val (.int p1), .val (.ref b1), .val (.int (p1 &&& (7 : Int32))), .val (.int (K6 (p1 &&& (7 : Int32))))] [(.int (K6 (p1 &&& (7 : Int32)))), (.ref b1)])) _
    refine XS.iloadN X8.here hx rfl (hb hby at_65) rfl ?_
    show Steps p.tables e below (T8.setTop (mkF m 66 #[.val (.int p1), .val (.ref b1), .val (.int (p1 &&& (7 : Int32))), .val (.int (K6 (p1 &&& (7 : Int32))))] [(.int (p1 &&& (7 : Int32))), (.int (K6 (p1 &&& (7 : Int32)))), (.ref b1)])) _
    refine XS.bipush X8.here hx rfl (hb hby at_66) ?_
    show Steps p.tables e below (T8.setTop (mkF m 68 #[.val (.int p1), .val (.ref b1), .val (.int (p1 &&& (7 : Int32))), .val (.int (K6 (p1 &&& (7 : Int32))))] [(.int (6 : Int32)), (.int (p1 &&& (7 : Int32))), (.int (K6 (p1 &&& (7 : Int32)))), (.ref b1)])) _
    refine st9 _ ?_
    show Steps p.tables e below (T9.setTop (mkF m 71 #[.val (.int p1), .val (.ref b1), .val (.int (p1 &&& (7 : Int32))), .val (.int (K6 (p1 &&& (7 : Int32))))] [(.int (K7 (p1 &&& (7 : Int32))))])) _
    refine XS.istoreN X9.here hx rfl (hb hby at_71) rfl (l' := #[.val (.int p1), .val (.ref b1), .val (.int (p1 &&& (7 : Int32))), .val (.int (K7 (p1 &&& (7 : Int32))))]) rfl ?_
    show Steps p.tables e below (T9.setTop (mkF m 72 #[.val (.int p1), .val (.ref b1), .val (.int (p1 &&& (7 : Int32))), .val (.int (K7 (p1 &&& (7 : Int32))))] [])) _
    refine XS.iloadN X9.here hx rfl (hb hby at_72) rfl ?_
    show Steps p.tables e below (T9.setTop (mkF m 73 #[.val (.int p1), .val (.ref b1), .val (.int (p1 &&& (7 : Int32))), .val (.int (K7 (p1 &&& (7 : Int32))))] [(.int (K7 (p1 &&& (7 : Int32))))])) _
    by_cases hc73_10 : (K7 (p1 &&& (7 : Int32))) < (0 : Int32)
    · refine XS.ifYes X9.here hx rfl (pc0 := 73) (pc' := 80) rfl (hb hby at_73) rfl ((if0 _ _).trans (tlt hc73_10).1) (by decide) (by decide) ?_
      show Steps p.tables e below (T9.setTop (mkF m 80 #[.val (.int p1), .val (.ref b1), .val (.int (p1 &&& (7 : Int32))), .val (.int (K7 (p1 &&& (7 : Int32))))] [])) _
      refine XS.iconst X9.here hx rfl (hb hby at_80) ?_
      show Steps p.tables e below (T9.setTop (mkF m 81 #[.val (.int p1), .val (.ref b1), .val (.int (p1 &&& (7 : Int32))), .val (.int (K7 (p1 &&& (7 : Int32))))] [(.int (0 : Int32))])) _
      rw [if_pos hc73_10] at hr
      exact retN X9 hx (t := .boolean) Bd.returns (by simp) (hb hby at_81) hr
    · refine XS.ifNo X9.here hx rfl (hb hby at_73) rfl ((if0 _ _).trans (flt hc73_10).1) ?_
      show Steps p.tables e below (T9.setTop (mkF m 76 #[.val (.int p1), .val (.ref b1), .val (.int (p1 &&& (7 : Int32))), .val (.int (K7 (p1 &&& (7 : Int32))))] [])) _
      refine XS.iconst X9.here hx rfl (hb hby at_76) ?_
      show Steps p.tables e below (T9.setTop (mkF m 77 #[.val (.int p1), .val (.ref b1), .val (.int (p1 &&& (7 : Int32))), .val (.int (K7 (p1 &&& (7 : Int32))))] [(.int (1 : Int32))])) _
      refine XS.goto X9.here hx rfl (pc0 := 77) (pc' := 81) rfl (hb hby at_77) (by decide) (by decide) ?_
      show Steps p.tables e below (T9.setTop (mkF m 81 #[.val (.int p1), .val (.ref b1), .val (.int (p1 &&& (7 : Int32))), .val (.int (K7 (p1 &&& (7 : Int32))))] [(.int (1 : Int32))])) _
      rw [if_neg hc73_10] at hr
      exact retN X9 hx (t := .boolean) Bd.returns (by simp) (hb hby at_81) hr
  · show Q0 Z p1 h0 n0 _ T9.heap _
    exact ⟨congrArg (fun z => some (Value.int z)) ((show F0 p1 = (if (K7 (p1 &&& (7 : Int32))) < (0 : Int32) then (0 : Int32) else (1 : Int32)) by rw [F0]).symm.trans (own_law p1)), N9⟩
set_option maxRecDepth 65536 in
set_option maxHeartbeats 40000000 in
theorem comes_1 {Post : Tables → Env → Array Value → State → Outcome → State → Prop} (hpost : ∀ tb e args s v u, (limb_1_1.after args s (.returned v) u = true ∧ limb_1_2.after args s (.returned v) u = true ∧ True) → FrameEnd s (.returned v) u (Jvm.fieldLocs frame_1_writes args s ++ Jvm.arrayLocs frame_1_arrays args s ++ Jvm.staticLocs frame_1_statics s) 16 128 → Post tb e args s (.returned v) u) :
    ArmFor flags0 classFile x code maxLocals ret World_1 tables_1 room_1 Calls_1 rest_1 Pre_1 Post := by
  intro l hfl _ _ p e ha hc hk s m args below hf hA hF happ hP
  obtain ⟨hcalls, hrest, hpre⟩ := hP
  obtain ⟨-, -, -, hnamed, -, -, -, hat⟩ := (Spec.applies_iff hf).mp happ
  obtain ⟨hg, hn⟩ := and_e (Cond.before_iff.mp (show (Jvm.Cond.and given_1 narrow_1).before args s = true from hpre))
  obtain ⟨hcnt, hg0⟩ := and_e hg
  have hi0 := hg0
  obtain ⟨w0, rfl⟩ : ∃ w0 : Value, args = #[w0] := by
    have hs : args.size = 1 := by simpa [Cond.value, given_1] using hcnt
    obtain ⟨L⟩ := args
    match L, hs with
    | [w0], _ => exact ⟨w0, rfl⟩
  have hw := fun d (hd : d ∈ tables_1) => atoms_spec (ws := Jvm.Cond.code x code maxLocals ret :: tables_1) hat d (List.mem_cons_of_mem _ hd)
  obtain ⟨i0, ei0⟩ := is_v hi0
  obtain rfl : w0 = (.int i0) := Option.some.inj ei0
  obtain ⟨n, o, h1, h2, h3, _, L, rfl, ⟨rfl, N⟩, hq⟩ := rm0 l s _ hw tables_1 i0  s.heap s.heap.size (Nat.le_refl _)  p e ha hc hk s m _ below hf ((Spec.applies_iff_loose hf).mp happ).1 ⟨rfl, State.Warmed39.refl s, rfl⟩ trivial
  refine ⟨n, _, h1, h2, h3, hpost _ _ _ _ _ _ ⟨Cond.after_iff.mpr rfl, Cond.after_iff.mpr (eq_i res_at (Term.int_eval (1)) rfl), trivial⟩ ⟨hq.1, hq.2.1, (hq.2.2.sift fun y hy => Or.inr (N y hy)).mono (by decide) (by decide)⟩⟩
theorem main_1_1 : Claimed_1_1 := comes_1 fun _ _ _ _ _ _ h hF => ⟨h.1, hF⟩
theorem main_1_2 : Claimed_1_2 := comes_1 fun _ _ _ _ _ _ h hF => ⟨h.2.1, hF⟩
end Jvm.Pilot.@@N@@
namespace Jvm.Pilot.@@N@@
open Jvm Jvm.ClassFile Sem Op Lib Jvm.Free Jvm.Stand Jvm.Pilot.@@N@@.Jvm.D
/-! MADE BY PROGRAM (witnessworld.py) out of the Statement's table words and the real class files: 10 classes; the members and pool entries that the words name. The judged class is class 1, her method 3. -/
namespace start1
open Jvm.ClassFile
def u (s : String) : CpInfo := .utf8 (stringToUtf16 s)
/-- a pool by its gaps: so many unusable entries, then the entry; so many at the end -/
def gap : Nat → List CpInfo → List CpInfo
  | 0, r => r
  | n + 1, r => .unusable :: gap n r
def poolList (es : List (Nat × CpInfo)) (last : Nat) : List CpInfo := es.foldr (fun e r => gap e.1 (e.2 :: r)) (gap last [])
def pool (es : List (Nat × CpInfo)) (last : Nat) : Array CpInfo := ⟨poolList es last⟩
def fileOf (pool : Array CpInfo) (this : Nat) (attrs : Array Attribute := #[]) (ms : Array MethodInfo := #[]) (fl : Nat := 33) (sup : Nat := 0) (ifs : Array Nat := #[]) (fds : Array FieldInfo := #[]) : ClassFile where
  minorVersion := 0
  majorVersion := 65
  constantPool := pool
  accessFlags := fl
  thisClass := this
  superClass := sup
  interfaces := ifs
  fields := fds
  methods := ms
  attributes := attrs
def plain (name : String) (sup : Option ClassId) : Class where
  name := name
  kind := .ordinary
  loader := none
  accessFlags := 33
  super := sup
  interfaces := #[]
  cf := none
  fields := #[]
  methods := #[]
  instanceTypes := #[]
  staticTypes := #[]
  resolved := #[]
  callSites := []
  init := .initialized
  statics := none
  mirror := none

def pool0 : Array CpInfo := pool [(5, u "<init>"), (0, u "()V"), (1, .class_ 10), (1, u "java/lang/Object")] 113

def k0c0 : Code := { maxStack := 0, maxLocals := 1, code := object_method_1_code, exceptionTable := #[], attributes := #[] }
def k0m0 : Method := { name := "<init>", desc := "()V", sig := { parameters := [], returnType := none }, accessFlags := 1, code := some k0c0 }
/-- java/lang/Object -/
def k0 : Class := { plain "java/lang/Object" none with
  accessFlags := 33
  interfaces := #[]
  cf := some (fileOf pool0 8 #[] #[{ accessFlags := 1, nameIndex := 5, descriptorIndex := 6, attributes := #[] }] 33 0 #[] #[])
  fields := #[]
  methods := #[k0m0]
  instanceTypes := #[]
  staticTypes := #[]
  resolved := Array.replicate 124 none
  statics := none }

def pool1 : Array CpInfo := pool [(2, .class_ 4), (0, .nameAndType 5 6), (0, u "java/lang/Object"), (0, u "<init>"), (0, u "()V"), (0, .long 100), (1, .long 200), (1, .long 400), (1, .long 800), (1, .long 1000), (1, .methodref 18 19), (0, .class_ 20), (0, .nameAndType 21 6), (0, u "com/example/holdfast/holdfast/Backoff"), (0, u "reset"), (0, .methodref 18 23), (0, .nameAndType 24 25), (0, u "nextMillis"), (0, u "()J"), (0, .methodref 27 28), (0, .class_ 29), (0, .nameAndType 30 31), (0, u "com/example/holdfast/holdfast/BackoffNextMillisPinLaw"), (0, u "expected"), (0, u "(I)J"), (0, .methodref 18 3), (0, .methodref 27 34), (0, .nameAndType 35 36), (0, u "step"), (0, u "(Lcom/example/holdfast/holdfast/Backoff;III)I"), (3, u "law"), (0, u "(I)Z")] 2

def k1m0 : Method := { name := "<init>", desc := "()V", sig := { parameters := [], returnType := none }, accessFlags := 1, code := none }
def k1c1 : Code := { maxStack := 2, maxLocals := 1, code := method_2_code, exceptionTable := #[], attributes := #[] }
def k1m1 : Method := { name := "expected", desc := "(I)J", sig := { parameters := [.int], returnType := some .long }, accessFlags := 10, code := some k1c1 }
def k1c2 : Code := { maxStack := 4, maxLocals := 7, code := method_3_code, exceptionTable := #[], attributes := #[] }
def k1m2 : Method := { name := "step", desc := "(Lcom/example/holdfast/holdfast/Backoff;III)I", sig := { parameters := [(.object "com/example/holdfast/holdfast/Backoff"), .int, .int, .int], returnType := some .int }, accessFlags := 10, code := some k1c2 }
def k1c3 : Code := { maxStack := 4, maxLocals := 4, code := code, exceptionTable := #[], attributes := #[] }
def k1m3 : Method := { name := "law", desc := "(I)Z", sig := { parameters := [.int], returnType := some .boolean }, accessFlags := 9, code := some k1c3 }
/-- com/example/holdfast/holdfast/BackoffNextMillisPinLaw -/
def k1 : Class := { plain "com/example/holdfast/holdfast/BackoffNextMillisPinLaw" (some 0) with
  accessFlags := 49
  interfaces := #[]
  cf := some (fileOf pool1 27 #[] #[{ accessFlags := 1, nameIndex := 5, descriptorIndex := 6, attributes := #[] }, { accessFlags := 10, nameIndex := 30, descriptorIndex := 31, attributes := #[] }, { accessFlags := 10, nameIndex := 35, descriptorIndex := 36, attributes := #[] }, { accessFlags := 9, nameIndex := 40, descriptorIndex := 41, attributes := #[] }] 49 2 #[] #[])
  fields := #[]
  methods := #[k1m0, k1m1, k1m2, k1m3]
  instanceTypes := #[]
  staticTypes := #[]
  resolved := Array.replicate 44 none
  statics := none }

def pool2 : Array CpInfo := pool [(1, .methodref 2 3), (0, .class_ 4), (0, .nameAndType 5 6), (0, u "java/lang/Object"), (0, u "<init>"), (0, u "()V"), (0, .class_ 8), (0, u "com/example/holdfast/holdfast/Backoff"), (0, .long 100), (1, .fieldref 7 12), (0, .nameAndType 13 14), (0, u "nextMillis"), (0, u "J"), (0, .long 2), (1, .long 1000), (1, .methodref 20 21), (0, .class_ 22), (0, .nameAndType 23 24), (0, u "java/lang/Math"), (0, u "min"), (0, u "(JJ)J"), (0, u "FIRST_PAUSE_MILLIS"), (1, u "LONGEST_PAUSE_MILLIS"), (2, u "()J"), (0, u "reset")] 2

def k2c0 : Code := { maxStack := 3, maxLocals := 1, code := prog_1_method_1_code, exceptionTable := #[], attributes := #[] }
def k2m0 : Method := { name := "<init>", desc := "()V", sig := { parameters := [], returnType := none }, accessFlags := 0, code := some k2c0 }
def k2c1 : Code := { maxStack := 5, maxLocals := 3, code := prog_1_method_2_code, exceptionTable := #[], attributes := #[] }
def k2m1 : Method := { name := "nextMillis", desc := "()J", sig := { parameters := [], returnType := some .long }, accessFlags := 0, code := some k2c1 }
def k2c2 : Code := { maxStack := 3, maxLocals := 1, code := prog_1_method_3_code, exceptionTable := #[], attributes := #[] }
def k2m2 : Method := { name := "reset", desc := "()V", sig := { parameters := [], returnType := none }, accessFlags := 0, code := some k2c2 }
/-- com/example/holdfast/holdfast/Backoff -/
def k2 : Class := { plain "com/example/holdfast/holdfast/Backoff" (some 0) with
  accessFlags := 48
  interfaces := #[]
  cf := some (fileOf pool2 7 #[] #[{ accessFlags := 0, nameIndex := 5, descriptorIndex := 6, attributes := #[] }, { accessFlags := 0, nameIndex := 13, descriptorIndex := 30, attributes := #[] }, { accessFlags := 0, nameIndex := 31, descriptorIndex := 6, attributes := #[] }] 48 2 #[] #[{ accessFlags := 26, nameIndex := 25, descriptorIndex := 14, attributes := #[] }, { accessFlags := 26, nameIndex := 27, descriptorIndex := 14, attributes := #[] }, { accessFlags := 2, nameIndex := 13, descriptorIndex := 14, attributes := #[] }])
  fields := #[{ name := "FIRST_PAUSE_MILLIS", type := .long, accessFlags := 26, slot := 0, constantValue := 0 }, { name := "LONGEST_PAUSE_MILLIS", type := .long, accessFlags := 26, slot := 1, constantValue := 0 }, { name := "nextMillis", type := .long, accessFlags := 2, slot := 0, constantValue := 0 }]
  methods := #[k2m0, k2m1, k2m2]
  instanceTypes := #[.long]
  staticTypes := #[.long, .long]
  resolved := Array.replicate 34 none
  statics := none }

def pool3 : Array CpInfo := pool [(1, .class_ 2), (0, u "java/lang/Math"), (1, .class_ 6), (1, u "java/lang/Object"), (0, u "<init>"), (0, u "()V"), (89, .class_ 100), (1, u "java/lang/Math$RandomNumberGeneratorHolder"), (20, u "(JJ)J"), (50, u "negativeZeroFloatBits"), (0, u "J"), (2, u "negativeZeroDoubleBits"), (24, u "min"), (43, u "$assertionsDisabled"), (0, u "Z"), (91, u "twoToTheDoubleScaleDown"), (0, u "D"), (4, u "twoToTheDoubleScaleUp"), (9, u "E"), (3, u "PI"), (2, u "TAU"), (2, u "DEGREES_TO_RADIANS"), (0, u "RADIANS_TO_DEGREES")] 94

def k3m0 : Method := { name := "<init>", desc := "()V", sig := { parameters := [], returnType := none }, accessFlags := 2, code := none }
def k3c1 : Code := { maxStack := 4, maxLocals := 4, code := jdk_29_method_70_code, exceptionTable := #[], attributes := #[] }
def k3m1 : Method := { name := "min", desc := "(JJ)J", sig := { parameters := [.long, .long], returnType := some .long }, accessFlags := 9, code := some k3c1 }
/-- java/lang/Math -/
def k3 : Class := { plain "java/lang/Math" (some 0) with
  accessFlags := 49
  interfaces := #[]
  cf := some (fileOf pool3 1 #[.nestMembers #[98]] #[{ accessFlags := 2, nameIndex := 7, descriptorIndex := 8, attributes := #[] }, { accessFlags := 9, nameIndex := 201, descriptorIndex := 121, attributes := #[] }] 49 4 #[] #[{ accessFlags := 25, nameIndex := 354, descriptorIndex := 339, attributes := #[] }, { accessFlags := 25, nameIndex := 358, descriptorIndex := 339, attributes := #[] }, { accessFlags := 25, nameIndex := 361, descriptorIndex := 339, attributes := #[] }, { accessFlags := 26, nameIndex := 364, descriptorIndex := 339, attributes := #[] }, { accessFlags := 26, nameIndex := 365, descriptorIndex := 339, attributes := #[] }, { accessFlags := 26, nameIndex := 172, descriptorIndex := 173, attributes := #[] }, { accessFlags := 26, nameIndex := 176, descriptorIndex := 173, attributes := #[] }, { accessFlags := 8, nameIndex := 344, descriptorIndex := 339, attributes := #[] }, { accessFlags := 8, nameIndex := 338, descriptorIndex := 339, attributes := #[] }, { accessFlags := 4120, nameIndex := 245, descriptorIndex := 246, attributes := #[] }])
  fields := #[{ name := "E", type := .double, accessFlags := 25, slot := 0, constantValue := 0 }, { name := "PI", type := .double, accessFlags := 25, slot := 1, constantValue := 0 }, { name := "TAU", type := .double, accessFlags := 25, slot := 2, constantValue := 0 }, { name := "DEGREES_TO_RADIANS", type := .double, accessFlags := 26, slot := 3, constantValue := 0 }, { name := "RADIANS_TO_DEGREES", type := .double, accessFlags := 26, slot := 4, constantValue := 0 }, { name := "negativeZeroFloatBits", type := .long, accessFlags := 26, slot := 5, constantValue := 0 }, { name := "negativeZeroDoubleBits", type := .long, accessFlags := 26, slot := 6, constantValue := 0 }, { name := "twoToTheDoubleScaleUp", type := .double, accessFlags := 8, slot := 7, constantValue := 0 }, { name := "twoToTheDoubleScaleDown", type := .double, accessFlags := 8, slot := 8, constantValue := 0 }, { name := "$assertionsDisabled", type := .boolean, accessFlags := 4120, slot := 9, constantValue := 0 }]
  methods := #[k3m0, k3m1]
  instanceTypes := #[]
  staticTypes := #[.double, .double, .double, .double, .double, .long, .long, .double, .double, .boolean]
  resolved := Array.replicate 460 none
  statics := none }

def pool4 : Array CpInfo := pool [(1, u "java/lang/Cloneable"), (0, .class_ 1), (0, u "java/lang/Object"), (0, .class_ 3)] 3

/-- java/lang/Cloneable -/
def k4 : Class := { plain "java/lang/Cloneable" (some 0) with
  accessFlags := 1537
  interfaces := #[]
  cf := some (fileOf pool4 2 #[] #[] 1537 4 #[] #[])
  fields := #[]
  methods := #[]
  instanceTypes := #[]
  staticTypes := #[]
  resolved := Array.replicate 8 none
  statics := none }

def pool5 : Array CpInfo := pool [(1, u "java/io/Serializable"), (0, .class_ 1), (0, u "java/lang/Object"), (0, .class_ 3)] 3

/-- java/io/Serializable -/
def k5 : Class := { plain "java/io/Serializable" (some 0) with
  accessFlags := 1537
  interfaces := #[]
  cf := some (fileOf pool5 2 #[] #[] 1537 4 #[] #[])
  fields := #[]
  methods := #[]
  instanceTypes := #[]
  staticTypes := #[]
  resolved := Array.replicate 8 none
  statics := none }

/-- the primitive byte -/
def k6 : Class := { plain "byte" none with kind := .primitive 'B', accessFlags := 0x411 }
/-- [B -/
def k7 : Class := { plain "[B" (some 0) with kind := .array 6 .byte, interfaces := #[4, 5], accessFlags := 1041 }

/-- the primitive int -/
def k8 : Class := { plain "int" none with kind := .primitive 'I', accessFlags := 0x411 }
/-- [I -/
def k9 : Class := { plain "[I" (some 0) with kind := .array 8 .int, interfaces := #[4, 5], accessFlags := 1041 }

def heap : Heap := #[]
def classes : Array Class := #[k0, k1, k2, k3, k4, k5, k6, k7, k8, k9]
def interned : List (Array UInt16 × Addr) := []
def slotsUsed : Nat := 0
def theMethod : MethodId := ⟨1, 3⟩
def args0 : Array Value := #[.int 5]
def aboutOver (below : List Frame) : State where
  vm := { classes := classes, interned := interned.toArray }
  heap := heap
  slotsUsed := slotsUsed
  threads := #[{ frames := .invoking theMethod args0 :: below }]
def below0 : List Frame := [.native { method := ⟨0, 0⟩, args := #[] }]
def about1 : State := aboutOver below0
def p0 : Program := .bare "" "" ""
def e0 : Env := launch0.env 0 0 0
theorem w_frames : about1.frames = Frame.invoking theMethod args0 :: below0 := rfl
set_option maxRecDepth 65536 in
theorem w_args : argsFit about1.vm theMethod args0 = true := by decide +kernel
set_option maxRecDepth 65536 in
theorem w_heap : heapFits about1 = true := by decide +kernel
set_option maxRecDepth 65536 in
theorem w_runnable : about1.curStatus? = some .runnable := by decide +kernel
set_option maxRecDepth 65536 in
theorem w_alone : about1.alone = true := by decide +kernel
set_option maxRecDepth 65536 in
theorem w_named : about1.methodNamed? x = some theMethod := by decide +kernel
set_option maxRecDepth 65536 in
theorem w_hears : about1.hears theMethod below0 = true := by decide +kernel
set_option maxRecDepth 65536 in
theorem w_ripe : about1.ripe theMethod args0 below0 = true := by decide +kernel
theorem w_running : about1.status = .running := rfl
set_option maxRecDepth 65536 in
theorem w_room : about1.hasRoom e0.platform room_1 = true :=
  launch0.hasRoom_least _ room_1 (by decide +kernel) (by decide +kernel) (by decide +kernel) (by decide +kernel) (by decide +kernel) (by decide +kernel)
theorem allAtoms_all (ts : List Jvm.Cond) (a : Array Jvm.Value) (st : Jvm.State) : (allAtoms ts).before a st = ts.all (fun c => c.before a st) := by
  induction ts with
  | nil => rfl
  | cons c t ih =>
    show (Jvm.Cond.and c (allAtoms t)).before a st = _
    rw [Jvm.Cond.before_and, ih, List.all_cons]
def words1 : List Jvm.Cond := Jvm.Cond.code x code maxLocals ret :: tables_1
/-- a 'code' word, met by the world's own term for the bytes: nothing is compared byte by byte -/
theorem code_word {y : MethodName} {bytes : ByteArray} {mx : Nat} {rt : Option FieldType} {a : Array Value} {s : State} {m : MethodId} {meth : Method} {c : Code} (h1 : s.methodNamed? y = some m) (h2 : s.vm.method? m = some meth) (h3 : meth.code = some c) (h4 : c.code = bytes)
    (h5 : (c.maxLocals == mx && c.exceptionTable.isEmpty && decide (c.maxStack ≤ mostOperands) && decide (meth.sig.returnType = rt) && !meth.locks && decide (parseMethodDescriptor y.desc = some meth.sig)) = true) : (Jvm.Cond.code y bytes mx rt).before a s = true := by
  simp only [Bool.and_eq_true, beq_iff_eq, Bool.not_eq_true', decide_eq_true_eq] at h5
  obtain ⟨⟨⟨⟨⟨g1, g2⟩, g3⟩, g4⟩, g5⟩, g6⟩ := h5
  simp [Cond.before, Cond.holds, Cond.value, h1, h2, h3, h4, g1, g2, g3, g4, g5, g6]
def isCode : Jvm.Cond → Bool
  | .code _ _ _ _ => true
  | _ => false
theorem all_split {L : List Jvm.Cond} {P : Jvm.Cond → Bool} (h1 : L.all (fun c => isCode c || P c) = true) (h2 : ∀ c ∈ L.filter isCode, P c = true) : L.all P = true := by
  refine List.all_eq_true.mpr fun c hc => ?_
  have h := List.all_eq_true.mp h1 c hc
  rcases Bool.eq_false_or_eq_true (isCode c) with hi | hi
  · exact h2 c (List.mem_filter.mpr ⟨hc, hi⟩)
  · simpa [hi] using h
set_option maxRecDepth 65536 in
theorem w_c0 : (Jvm.Cond.code x code maxLocals ret).before args0 about1 = true := code_word (m := ⟨1, 3⟩) (meth := k1m3) (c := k1c3) (by decide +kernel) rfl rfl rfl (by decide +kernel)
set_option maxRecDepth 65536 in
theorem w_c1 : (Jvm.Cond.code ({ cls := "com/example/holdfast/holdfast/Backoff", name := "<init>", desc := "()V" } : Jvm.MethodName) prog_1_method_1_code (1 : Nat) (Option.none : Option Jvm.ClassFile.FieldType)).before args0 about1 = true := code_word (m := ⟨2, 0⟩) (meth := k2m0) (c := k2c0) (by decide +kernel) rfl rfl rfl (by decide +kernel)
set_option maxRecDepth 65536 in
theorem w_c2 : (Jvm.Cond.code ({ cls := "java/lang/Object", name := "<init>", desc := "()V" } : Jvm.MethodName) object_method_1_code (1 : Nat) (Option.none : Option Jvm.ClassFile.FieldType)).before args0 about1 = true := code_word (m := ⟨0, 0⟩) (meth := k0m0) (c := k0c0) (by decide +kernel) rfl rfl rfl (by decide +kernel)
set_option maxRecDepth 65536 in
theorem w_c3 : (Jvm.Cond.code ({ cls := "com/example/holdfast/holdfast/BackoffNextMillisPinLaw", name := "step", desc := "(Lcom/example/holdfast/holdfast/Backoff;III)I" } : Jvm.MethodName) method_3_code (7 : Nat) (Option.some Jvm.ClassFile.FieldType.int)).before args0 about1 = true := code_word (m := ⟨1, 2⟩) (meth := k1m2) (c := k1c2) (by decide +kernel) rfl rfl rfl (by decide +kernel)
set_option maxRecDepth 65536 in
theorem w_c4 : (Jvm.Cond.code ({ cls := "com/example/holdfast/holdfast/Backoff", name := "reset", desc := "()V" } : Jvm.MethodName) prog_1_method_3_code (1 : Nat) (Option.none : Option Jvm.ClassFile.FieldType)).before args0 about1 = true := code_word (m := ⟨2, 2⟩) (meth := k2m2) (c := k2c2) (by decide +kernel) rfl rfl rfl (by decide +kernel)
set_option maxRecDepth 65536 in
theorem w_c5 : (Jvm.Cond.code ({ cls := "com/example/holdfast/holdfast/Backoff", name := "nextMillis", desc := "()J" } : Jvm.MethodName) prog_1_method_2_code (3 : Nat) (Option.some Jvm.ClassFile.FieldType.long)).before args0 about1 = true := code_word (m := ⟨2, 1⟩) (meth := k2m1) (c := k2c1) (by decide +kernel) rfl rfl rfl (by decide +kernel)
set_option maxRecDepth 65536 in
theorem w_c6 : (Jvm.Cond.code ({ cls := "java/lang/Math", name := "min", desc := "(JJ)J" } : Jvm.MethodName) jdk_29_method_70_code (4 : Nat) (Option.some Jvm.ClassFile.FieldType.long)).before args0 about1 = true := code_word (m := ⟨3, 1⟩) (meth := k3m1) (c := k3c1) (by decide +kernel) rfl rfl rfl (by decide +kernel)
set_option maxRecDepth 65536 in
theorem w_c7 : (Jvm.Cond.code ({ cls := "com/example/holdfast/holdfast/BackoffNextMillisPinLaw", name := "expected", desc := "(I)J" } : Jvm.MethodName) method_2_code (1 : Nat) (Option.some Jvm.ClassFile.FieldType.long)).before args0 about1 = true := code_word (m := ⟨1, 1⟩) (meth := k1m1) (c := k1c1) (by decide +kernel) rfl rfl rfl (by decide +kernel)
def codes1 : List Jvm.Cond := [Jvm.Cond.code x code maxLocals ret, Jvm.Cond.code ({ cls := "com/example/holdfast/holdfast/Backoff", name := "<init>", desc := "()V" } : Jvm.MethodName) prog_1_method_1_code (1 : Nat) (Option.none : Option Jvm.ClassFile.FieldType), Jvm.Cond.code ({ cls := "java/lang/Object", name := "<init>", desc := "()V" } : Jvm.MethodName) object_method_1_code (1 : Nat) (Option.none : Option Jvm.ClassFile.FieldType), Jvm.Cond.code ({ cls := "com/example/holdfast/holdfast/BackoffNextMillisPinLaw", name := "step", desc := "(Lcom/example/holdfast/holdfast/Backoff;III)I" } : Jvm.MethodName) method_3_code (7 : Nat) (Option.some Jvm.ClassFile.FieldType.int), Jvm.Cond.code ({ cls := "com/example/holdfast/holdfast/Backoff", name := "reset", desc := "()V" } : Jvm.MethodName) prog_1_method_3_code (1 : Nat) (Option.none : Option Jvm.ClassFile.FieldType), Jvm.Cond.code ({ cls := "com/example/holdfast/holdfast/Backoff", name := "nextMillis", desc := "()J" } : Jvm.MethodName) prog_1_method_2_code (3 : Nat) (Option.some Jvm.ClassFile.FieldType.long), Jvm.Cond.code ({ cls := "java/lang/Math", name := "min", desc := "(JJ)J" } : Jvm.MethodName) jdk_29_method_70_code (4 : Nat) (Option.some Jvm.ClassFile.FieldType.long), Jvm.Cond.code ({ cls := "com/example/holdfast/holdfast/BackoffNextMillisPinLaw", name := "expected", desc := "(I)J" } : Jvm.MethodName) method_2_code (1 : Nat) (Option.some Jvm.ClassFile.FieldType.long)]
set_option maxRecDepth 65536 in
theorem codes_eq : words1.filter isCode = codes1 := rfl
theorem w_codes : ∀ c ∈ words1.filter isCode, c.before args0 about1 = true := by
  rw [codes_eq]
  intro c hc
  simp only [codes1, List.mem_cons, List.not_mem_nil, or_false] at hc
  rcases hc with rfl | rfl | rfl | rfl | rfl | rfl | rfl | rfl
  · exact w_c0
  · exact w_c1
  · exact w_c2
  · exact w_c3
  · exact w_c4
  · exact w_c5
  · exact w_c6
  · exact w_c7
set_option maxRecDepth 65536 in
theorem w_t1 : (words1.take 24).all (fun c => isCode c || c.before args0 about1) = true := by decide +kernel
set_option maxRecDepth 65536 in
theorem w_t2 : (words1.drop 24).all (fun c => isCode c || c.before args0 about1) = true := by decide +kernel
theorem w_tables : (allAtoms (Jvm.Cond.code x code maxLocals ret :: tables_1)).before args0 about1 = true := by
  rw [allAtoms_all]
  show words1.all (fun c => c.before args0 about1) = true
  refine all_split ?_ w_codes
  rw [← List.take_append_drop 24 words1, List.all_append, w_t1, w_t2]
  rfl
set_option maxRecDepth 65536 in
theorem w_case : (Jvm.Cond.and given_1 narrow_1).before args0 about1 = true := by decide +kernel
theorem w_applies : (headSpec (Jvm.Cond.code x code maxLocals ret :: tables_1) room_1).applies x e0.platform about1 = true :=
  (Spec.applies_iff w_frames).mpr ⟨w_running, w_runnable, w_alone, w_named, w_hears, w_ripe, w_room, w_tables⟩
theorem atStart : AtStart classFile x code maxLocals ret World_1 tables_1 room_1 Calls_1 rest_1 Pre_1 launch0 p0 e0 about1 theMethod args0 below0 :=
  ⟨lists_1, trivial, launch0.admits_env _ _ _, launch0.least_env, fairChoices_fair.cas, fairChoices_fair.clock, w_frames, w_args, w_heap, w_applies, trivial, trivial, w_case⟩
end start1
theorem witness_1 : WitnessClaimed_1 := ⟨start1.p0, start1.e0, start1.about1, start1.theMethod, start1.args0, start1.below0, start1.atStart⟩
end Jvm.Pilot.@@N@@
