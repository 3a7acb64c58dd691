import JvmDerived
import JvmDerived.Pilot.@@N@@Statement
import JvmDerived.Pilot.@@N@@Code
set_option linter.unusedVariables false
set_option linter.unusedSimpArgs false
namespace Jvm.RoadKit
open Sem ClassFile Op Lib Jvm.Stand Jvm.Free Jvm.LawKit
section New
variable {p : Program} {l : Launch} {e : Env} {R : Room} {s : State} {m : MethodId} {args : Array Value} {below : List Frame} {meth : Method} {c : Code} {T : State} {locs : List Loc} {cells slots : Nat}
theorem retI (X : Stand p l e R s m args below meth c T locs cells slots) (hx : p.tables.exec = Jvm.exec) {pc : Nat} {Ls : Array Slot} {z : Int32} {rest : List Value} (hret : meth.sig.returnType = some .int) (hd : decode c.code pc = .ok (.ireturn, 1)) {fs : List Frame}
    (hl : ∀ (f : JFrame) (acts : List Action), f.method = m → f.locked = none → f.entered = [] → (doReturn e (T.setTop f) acts (some (.int z))).1 = T.setFrames fs) : Steps p.tables e below (T.setTop (mkF m pc Ls (.int z :: rest))) (T.setFrames fs) := by
  have hm' : T.vm.method? m = some meth := X.method'
  have hn : narrow .int (.int z) = .int z := rfl
  show Steps p.tables e below (T.setTop { method := m, pc := pc, locals := Ls, stack := _ :: rest, locked := none }) _
  jvm_step X.here [X.here.top, hx, hd, hm', hret, hn]
  first | (intro acts; rw [hl _ acts rfl rfl rfl]) | rw [hl _ _ rfl rfl rfl]
  exact Steps.refl _
end New
end Jvm.RoadKit
namespace Jvm.Pilot.@@N@@
open Jvm Jvm.ClassFile Sem Op Lib Jvm.Free Jvm.Stand Jvm.LawKit Jvm.RoadKit Bundle Jvm.Pilot.@@N@@.Jvm.D
theorem d1_0 : decode prog_33_method_7_code 0 = .ok (.iload_n 1, 1) := by decide +kernel
theorem d1_1 : decode prog_33_method_7_code 1 = .ok (.ifCond .eq 21, 3) := by decide +kernel
theorem d1_4 : decode prog_33_method_7_code 4 = .ok (.iload_n 2, 1) := by decide +kernel
theorem d1_5 : decode prog_33_method_7_code 5 = .ok (.ifCond .eq 10, 3) := by decide +kernel
theorem d1_8 : decode prog_33_method_7_code 8 = .ok (.aload_n 0, 1) := by decide +kernel
theorem d1_9 : decode prog_33_method_7_code 9 = .ok (.getfield 42, 3) := by decide +kernel
theorem d1_12 : decode prog_33_method_7_code 12 = .ok (.goto 26, 3) := by decide +kernel
theorem d1_15 : decode prog_33_method_7_code 15 = .ok (.aload_n 0, 1) := by decide +kernel
theorem d1_16 : decode prog_33_method_7_code 16 = .ok (.getfield 35, 3) := by decide +kernel
theorem d1_19 : decode prog_33_method_7_code 19 = .ok (.goto 19, 3) := by decide +kernel
theorem d1_22 : decode prog_33_method_7_code 22 = .ok (.iload_n 2, 1) := by decide +kernel
theorem d1_23 : decode prog_33_method_7_code 23 = .ok (.ifCond .eq 14, 3) := by decide +kernel
theorem d1_26 : decode prog_33_method_7_code 26 = .ok (.aload_n 0, 1) := by decide +kernel
theorem d1_27 : decode prog_33_method_7_code 27 = .ok (.getfield 39, 3) := by decide +kernel
theorem d1_30 : decode prog_33_method_7_code 30 = .ok (.ifCond .eq 7, 3) := by decide +kernel
theorem d1_33 : decode prog_33_method_7_code 33 = .ok (.iconst 1, 1) := by decide +kernel
theorem d1_34 : decode prog_33_method_7_code 34 = .ok (.goto 4, 3) := by decide +kernel
theorem d1_37 : decode prog_33_method_7_code 37 = .ok (.iconst 0, 1) := by decide +kernel
theorem d1_38 : decode prog_33_method_7_code 38 = .ok (.ireturn, 1) := by decide +kernel
theorem pn_1 : plainName "com/example/bitweave/bitweave/SetOperation" = true := by first | (simp [plainName, overriddenIn]; done) | decide +kernel
theorem ef_1 (m : MethodId) (x0 : Addr) (x1 : Int32) (x2 : Int32) : entryFrame m #[(.ref x0), (.int x1), (.int x2)] 3 = mkF m 0 #[.val (.ref x0), .val (.int x1), .val (.int x2)] [] := by first | (simp [entryFrame, mkF, argsToLocals, Value.category]; done) | rfl
def F1 (p2 : Int32) (p3 : Int32) (w1 : Int32) (w2 : Int32) (w3 : Int32) : Int32 := (if p2 = (0 : Int32) then (if p3 = (0 : Int32) then (0 : Int32) else (if w2 = (0 : Int32) then (0 : Int32) else (1 : Int32))) else (if p3 = (0 : Int32) then (nar .boolean w1) else (nar .boolean w3)))
def Q1 (Z : State) (a1 : Addr) (p2 : Int32) (p3 : Int32) (w1 : Int32) (w2 : Int32) (w3 : Int32) (h0 : Heap) (n0 : Nat) (v : Option Value) (h : Heap) (L : List Loc) : Prop := v = some (.int (F1 p2 p3 w1 w2 w3)) ∧ Fr n0 L ∧ h = h0
set_option maxRecDepth 65536 in
set_option maxHeartbeats 40000000 in
theorem rm1 (l : Launch) (Z : State) (a0 : Array Value) (hw : ∀ d ∈ tables_1, d.before a0 Z = true) (ws : List Jvm.Cond) (a1 : Addr) (p2 : Int32) (p3 : Int32) (w1 : Int32) (w2 : Int32) (w3 : Int32) (h0 : Heap) (n0 : Nat) (Z0 : n0 ≤ h0.size) (Fx : Fld Z h0 a1 "com/example/bitweave/bitweave/SetOperation" "keepsFirstOnly" "Z" (.int w1)) (Fy : Fld Z h0 a1 "com/example/bitweave/bitweave/SetOperation" "keepsSecondOnly" "Z" (.int w2)) (Fz : Fld Z h0 a1 "com/example/bitweave/bitweave/SetOperation" "keepsBoth" "Z" (.int w3)) :
    MetFree l (⟨"com/example/bitweave/bitweave/SetOperation", "keeps", "(ZZ)Z"⟩ : MethodName) (head1 (Jvm.Cond.code (⟨"com/example/bitweave/bitweave/SetOperation", "keeps", "(ZZ)Z"⟩ : MethodName) prog_33_method_7_code 3 (some .boolean) :: ws) ({ frames := 0, cells := 0, slots := 0, locals := 0 } : Room)) (fun a U => a = #[(.ref a1), (.int p2), (.int p3)] ∧ Z.Warmed39 U.vm ∧ U.heap = h0) (fun _ _ _ _ _ => True) (fun _ U o U' => ∃ v L, o = .returned v ∧ Q1 Z a1 p2 p3 w1 w2 w3 h0 n0 v U'.heap L ∧ FrameEnd U o U' L ({ frames := 0, cells := 0, slots := 0, locals := 0 } : Room).cells ({ frames := 0, cells := 0, slots := 0, locals := 0 } : Room).slots) := by
  refine MetFree.of_bodySF (plainFor_of_name pn_1) hisR ?_
  intro p e s m args below meth c s₁ Bd hml0 hP hK
  obtain ⟨rfl, hZ, hh⟩ := hP
  have hx := Bd.exec
  have hby := Bd.bytes
  have hml : c.maxLocals = 3 := hml0
  have hown : s.vm.findClass "com/example/bitweave/bitweave/SetOperation" = some m.cls := findClass_of_methodNamed Bd.named
  have hnm := (name_of_methodNamed Bd.named Bd.method).1
  have X0 : Stand p l e ({ frames := 0, cells := 0, slots := 0, locals := 0 } : Room) s m #[(.ref a1), (.int p2), (.int p3)] below meth c s₁ [] 0 0 := Stand.of_body Bd
  have e0 : s₁.heap = h0 := by rw [← hh, Bd.state]; rfl
  have N0 := Fr.nil n0
  have pre0 : ∀ t, Steps p.tables e below (s₁.setTop (mkF m 0 #[.val (.ref a1), .val (.int p2), .val (.int p3)] [])) t → Steps p.tables e below (s₁.setTop (entryFrame m #[(.ref a1), (.int p2), (.int p3)] 3)) t := fun t k => castTop (ef_1 m a1 p2 p3) k
  by_cases hc1_1 : p2 = (0 : Int32)
  · by_cases hc23_2 : p3 = (0 : Int32)
    · obtain ⟨fs, hr, hrun, hended, hW, hsame⟩ := X0.leave (v := some (.int (0 : Int32))) (fun h => by rw [Bd.returns] at h; cases h)
      refine ⟨_, _, pre0 _ ?_, hrun, hended, _, _, rfl, ?_, ⟨_, rfl⟩, hW, hsame.mono (by decide) (by decide)⟩
      · show Steps p.tables e below (s₁.setTop (mkF m 0 #[.val (.ref a1), .val (.int p2), .val (.int p3)] [])) _
        refine XS.iloadN X0.here hx rfl (hb hby d1_0) rfl ?_
        show Steps p.tables e below (s₁.setTop (mkF m 1 #[.val (.ref a1), .val (.int p2), .val (.int p3)] [(.int p2)])) _
        refine XS.ifYes X0.here hx rfl (pc0 := 1) (pc' := 22) rfl (hb hby d1_1) rfl ((if0 _ _).trans (teq hc1_1).1) (by decide) (by decide) ?_
        show Steps p.tables e below (s₁.setTop (mkF m 22 #[.val (.ref a1), .val (.int p2), .val (.int p3)] [])) _
        refine XS.iloadN X0.here hx rfl (hb hby d1_22) rfl ?_
        show Steps p.tables e below (s₁.setTop (mkF m 23 #[.val (.ref a1), .val (.int p2), .val (.int p3)] [(.int p3)])) _
        refine XS.ifYes X0.here hx rfl (pc0 := 23) (pc' := 37) rfl (hb hby d1_23) rfl ((if0 _ _).trans (teq hc23_2).1) (by decide) (by decide) ?_
        show Steps p.tables e below (s₁.setTop (mkF m 37 #[.val (.ref a1), .val (.int p2), .val (.int p3)] [])) _
        refine XS.iconst X0.here hx rfl (hb hby d1_37) ?_
        show Steps p.tables e below (s₁.setTop (mkF m 38 #[.val (.ref a1), .val (.int p2), .val (.int p3)] [(.int (0 : Int32))])) _
        exact retN X0 hx (t := .boolean) Bd.returns (by simp) (hb hby d1_38) hr
      · show Q1 Z a1 p2 p3 w1 w2 w3 h0 n0 _ s₁.heap _
        rw [e0]
        exact ⟨congrArg (fun z => some (Value.int z)) (show F1 p2 p3 w1 w2 w3 = (0 : Int32) by rw [F1, if_pos hc1_1, if_pos hc23_2]).symm, N0, rfl⟩
    · obtain ⟨T3, X3, e3, st3⟩ := getF X0 hx hZ hown (host := "") (Or.inl (hw _ (List.mem_of_getElem? (i := 18) rfl))) Via.refl e0 Fy (g := (mkF m 27 #[.val (.ref a1), .val (.int p2), .val (.int p3)] [(.ref a1)])) rfl rfl (hb hby d1_27)
      obtain ⟨fs, hr, hrun, hended, hW, hsame⟩ := X3.leave (v := some (.int (if w2 = (0 : Int32) then (0 : Int32) else (1 : Int32)))) (fun h => by rw [Bd.returns] at h; cases h)
      refine ⟨_, _, pre0 _ ?_, hrun, hended, _, _, rfl, ?_, ⟨_, rfl⟩, hW, hsame.mono (by decide) (by decide)⟩
      · show Steps p.tables e below (s₁.setTop (mkF m 0 #[.val (.ref a1), .val (.int p2), .val (.int p3)] [])) _
        refine XS.iloadN X0.here hx rfl (hb hby d1_0) rfl ?_
        show Steps p.tables e below (s₁.setTop (mkF m 1 #[.val (.ref a1), .val (.int p2), .val (.int p3)] [(.int p2)])) _
        refine XS.ifYes X0.here hx rfl (pc0 := 1) (pc' := 22) rfl (hb hby d1_1) rfl ((if0 _ _).trans (teq hc1_1).1) (by decide) (by decide) ?_
        show Steps p.tables e below (s₁.setTop (mkF m 22 #[.val (.ref a1), .val (.int p2), .val (.int p3)] [])) _
        refine XS.iloadN X0.here hx rfl (hb hby d1_22) rfl ?_
        show Steps p.tables e below (s₁.setTop (mkF m 23 #[.val (.ref a1), .val (.int p2), .val (.int p3)] [(.int p3)])) _
        refine XS.ifNo X0.here hx rfl (hb hby d1_23) rfl ((if0 _ _).trans (feq hc23_2).1) ?_
        show Steps p.tables e below (s₁.setTop (mkF m 26 #[.val (.ref a1), .val (.int p2), .val (.int p3)] [])) _
        refine XS.aloadN X0.here hx rfl (hb hby d1_26) rfl rfl ?_
        show Steps p.tables e below (s₁.setTop (mkF m 27 #[.val (.ref a1), .val (.int p2), .val (.int p3)] [(.ref a1)])) _
        refine st3 _ ?_
        show Steps p.tables e below (T3.setTop (mkF m 30 #[.val (.ref a1), .val (.int p2), .val (.int p3)] [(.int w2)])) _
        by_cases hc30_4 : w2 = (0 : Int32)
        · refine XS.ifYes X3.here hx rfl (pc0 := 30) (pc' := 37) rfl (hb hby d1_30) rfl ((if0 _ _).trans (teq hc30_4).1) (by decide) (by decide) ?_
          show Steps p.tables e below (T3.setTop (mkF m 37 #[.val (.ref a1), .val (.int p2), .val (.int p3)] [])) _
          refine XS.iconst X3.here hx rfl (hb hby d1_37) ?_
          show Steps p.tables e below (T3.setTop (mkF m 38 #[.val (.ref a1), .val (.int p2), .val (.int p3)] [(.int (0 : Int32))])) _
          rw [if_pos hc30_4] at hr
          exact retN X3 hx (t := .boolean) Bd.returns (by simp) (hb hby d1_38) hr
        · refine XS.ifNo X3.here hx rfl (hb hby d1_30) rfl ((if0 _ _).trans (feq hc30_4).1) ?_
          show Steps p.tables e below (T3.setTop (mkF m 33 #[.val (.ref a1), .val (.int p2), .val (.int p3)] [])) _
          refine XS.iconst X3.here hx rfl (hb hby d1_33) ?_
          show Steps p.tables e below (T3.setTop (mkF m 34 #[.val (.ref a1), .val (.int p2), .val (.int p3)] [(.int (1 : Int32))])) _
          refine XS.goto X3.here hx rfl (pc0 := 34) (pc' := 38) rfl (hb hby d1_34) (by decide) (by decide) ?_
          show Steps p.tables e below (T3.setTop (mkF m 38 #[.val (.ref a1), .val (.int p2), .val (.int p3)] [(.int (1 : Int32))])) _
          rw [if_neg hc30_4] at hr
          exact retN X3 hx (t := .boolean) Bd.returns (by simp) (hb hby d1_38) hr
      · show Q1 Z a1 p2 p3 w1 w2 w3 h0 n0 _ T3.heap _
        rw [e3]
        exact ⟨congrArg (fun z => some (Value.int z)) (show F1 p2 p3 w1 w2 w3 = (if w2 = (0 : Int32) then (0 : Int32) else (1 : Int32)) by rw [F1, if_pos hc1_1, if_neg hc23_2]).symm, N0, rfl⟩
  · by_cases hc5_5 : p3 = (0 : Int32)
    · obtain ⟨T6, X6, e6, st6⟩ := getF X0 hx hZ hown (host := "") (Or.inl (hw _ (List.mem_of_getElem? (i := 12) rfl))) Via.refl e0 Fx (g := (mkF m 16 #[.val (.ref a1), .val (.int p2), .val (.int p3)] [(.ref a1)])) rfl rfl (hb hby d1_16)
      obtain ⟨fs, hr, hrun, hended, hW, hsame⟩ := X6.leave (v := some (.int (nar .boolean w1))) (fun h => by rw [Bd.returns] at h; cases h)
      refine ⟨_, _, pre0 _ ?_, hrun, hended, _, _, rfl, ?_, ⟨_, rfl⟩, hW, hsame.mono (by decide) (by decide)⟩
      · show Steps p.tables e below (s₁.setTop (mkF m 0 #[.val (.ref a1), .val (.int p2), .val (.int p3)] [])) _
        refine XS.iloadN X0.here hx rfl (hb hby d1_0) rfl ?_
        show Steps p.tables e below (s₁.setTop (mkF m 1 #[.val (.ref a1), .val (.int p2), .val (.int p3)] [(.int p2)])) _
        refine XS.ifNo X0.here hx rfl (hb hby d1_1) rfl ((if0 _ _).trans (feq hc1_1).1) ?_
        show Steps p.tables e below (s₁.setTop (mkF m 4 #[.val (.ref a1), .val (.int p2), .val (.int p3)] [])) _
        refine XS.iloadN X0.here hx rfl (hb hby d1_4) rfl ?_
        show Steps p.tables e below (s₁.setTop (mkF m 5 #[.val (.ref a1), .val (.int p2), .val (.int p3)] [(.int p3)])) _
        refine XS.ifYes X0.here hx rfl (pc0 := 5) (pc' := 15) rfl (hb hby d1_5) rfl ((if0 _ _).trans (teq hc5_5).1) (by decide) (by decide) ?_
        show Steps p.tables e below (s₁.setTop (mkF m 15 #[.val (.ref a1), .val (.int p2), .val (.int p3)] [])) _
        refine XS.aloadN X0.here hx rfl (hb hby d1_15) rfl rfl ?_
        show Steps p.tables e below (s₁.setTop (mkF m 16 #[.val (.ref a1), .val (.int p2), .val (.int p3)] [(.ref a1)])) _
        refine st6 _ ?_
        show Steps p.tables e below (T6.setTop (mkF m 19 #[.val (.ref a1), .val (.int p2), .val (.int p3)] [(.int w1)])) _
        refine XS.goto X6.here hx rfl (pc0 := 19) (pc' := 38) rfl (hb hby d1_19) (by decide) (by decide) ?_
        show Steps p.tables e below (T6.setTop (mkF m 38 #[.val (.ref a1), .val (.int p2), .val (.int p3)] [(.int w1)])) _
        exact retN X6 hx (t := .boolean) Bd.returns (by simp) (hb hby d1_38) hr
      · show Q1 Z a1 p2 p3 w1 w2 w3 h0 n0 _ T6.heap _
        rw [e6]
        exact ⟨congrArg (fun z => some (Value.int z)) (show F1 p2 p3 w1 w2 w3 = (nar .boolean w1) by rw [F1, if_neg hc1_1, if_pos hc5_5]).symm, N0, rfl⟩
    · obtain ⟨T7, X7, e7, st7⟩ := getF X0 hx hZ hown (host := "") (Or.inl (hw _ (List.mem_of_getElem? (i := 8) rfl))) Via.refl e0 Fz (g := (mkF m 9 #[.val (.ref a1), .val (.int p2), .val (.int p3)] [(.ref a1)])) rfl rfl (hb hby d1_9)
      obtain ⟨fs, hr, hrun, hended, hW, hsame⟩ := X7.leave (v := some (.int (nar .boolean w3))) (fun h => by rw [Bd.returns] at h; cases h)
      refine ⟨_, _, pre0 _ ?_, hrun, hended, _, _, rfl, ?_, ⟨_, rfl⟩, hW, hsame.mono (by decide) (by decide)⟩
      · show Steps p.tables e below (s₁.setTop (mkF m 0 #[.val (.ref a1), .val (.int p2), .val (.int p3)] [])) _
        refine XS.iloadN X0.here hx rfl (hb hby d1_0) rfl ?_
        show Steps p.tables e below (s₁.setTop (mkF m 1 #[.val (.ref a1), .val (.int p2), .val (.int p3)] [(.int p2)])) _
        refine XS.ifNo X0.here hx rfl (hb hby d1_1) rfl ((if0 _ _).trans (feq hc1_1).1) ?_
        show Steps p.tables e below (s₁.setTop (mkF m 4 #[.val (.ref a1), .val (.int p2), .val (.int p3)] [])) _
        refine XS.iloadN X0.here hx rfl (hb hby d1_4) rfl ?_
        show Steps p.tables e below (s₁.setTop (mkF m 5 #[.val (.ref a1), .val (.int p2), .val (.int p3)] [(.int p3)])) _
        refine XS.ifNo X0.here hx rfl (hb hby d1_5) rfl ((if0 _ _).trans (feq hc5_5).1) ?_
        show Steps p.tables e below (s₁.setTop (mkF m 8 #[.val (.ref a1), .val (.int p2), .val (.int p3)] [])) _
        refine XS.aloadN X0.here hx rfl (hb hby d1_8) rfl rfl ?_
        show Steps p.tables e below (s₁.setTop (mkF m 9 #[.val (.ref a1), .val (.int p2), .val (.int p3)] [(.ref a1)])) _
        refine st7 _ ?_
        show Steps p.tables e below (T7.setTop (mkF m 12 #[.val (.ref a1), .val (.int p2), .val (.int p3)] [(.int w3)])) _
        refine XS.goto X7.here hx rfl (pc0 := 12) (pc' := 38) rfl (hb hby d1_12) (by decide) (by decide) ?_
        show Steps p.tables e below (T7.setTop (mkF m 38 #[.val (.ref a1), .val (.int p2), .val (.int p3)] [(.int w3)])) _
        exact retN X7 hx (t := .boolean) Bd.returns (by simp) (hb hby d1_38) hr
      · show Q1 Z a1 p2 p3 w1 w2 w3 h0 n0 _ T7.heap _
        rw [e7]
        exact ⟨congrArg (fun z => some (Value.int z)) (show F1 p2 p3 w1 w2 w3 = (nar .boolean w3) by rw [F1, if_neg hc1_1, if_neg hc5_5]).symm, N0, rfl⟩
theorem pd_1 : parseMethodDescriptor "(ZZ)Z" = some ⟨[.boolean, .boolean], some .boolean⟩ := by decide +kernel
theorem pn_0 : plainName "com/example/bitweave/bitweave/SetOperationKeepsPinLaw" = true := by first | (simp [plainName, overriddenIn]; done) | decide +kernel
theorem ef_0 (m : MethodId) (x0 : Int32) (x1 : Int32) : entryFrame m #[(.int x0), (.int x1)] maxLocals = mkF m 0 #[.val (.int x0), .val (.int x1), .unset, .unset, .unset, .unset, .unset] [] := by first | (simp [entryFrame, mkF, argsToLocals, Value.category, maxLocals]; done) | rfl
def F0 (p1 : Int32) (p2 : Int32) : Int32 := (if (p2 &&& (1 : Int32)) = (0 : Int32) then (if (p2 &&& (2 : Int32)) = (0 : Int32) then (if (p1 &&& (3 : Int32)) = (0 : Int32) then (if (F1 (0 : Int32) (0 : Int32) (0 : Int32) (0 : Int32) (1 : Int32)) = (0 : Int32) then (1 : Int32) else (0 : Int32)) else (if (p1 &&& (3 : Int32)) = (1 : Int32) then (if (F1 (0 : Int32) (0 : Int32) (1 : Int32) (1 : Int32) (1 : Int32)) = (0 : Int32) then (1 : Int32) else (0 : Int32)) else (if (p1 &&& (3 : Int32)) = (2 : Int32) then (if (F1 (0 : Int32) (0 : Int32) (1 : Int32) (1 : Int32) (0 : Int32)) = (0 : Int32) then (1 : Int32) else (0 : Int32)) else (if (F1 (0 : Int32) (0 : Int32) (1 : Int32) (0 : Int32) (0 : Int32)) = (0 : Int32) then (1 : Int32) else (0 : Int32))))) else (if (p1 &&& (3 : Int32)) = (0 : Int32) then (if (F1 (0 : Int32) (1 : Int32) (0 : Int32) (0 : Int32) (1 : Int32)) = (0 : Int32) then (1 : Int32) else (0 : Int32)) else (if (p1 &&& (3 : Int32)) = (1 : Int32) then (if (F1 (0 : Int32) (1 : Int32) (1 : Int32) (1 : Int32) (1 : Int32)) = (1 : Int32) then (1 : Int32) else (0 : Int32)) else (if (p1 &&& (3 : Int32)) = (2 : Int32) then (if (F1 (0 : Int32) (1 : Int32) (1 : Int32) (1 : Int32) (0 : Int32)) = (1 : Int32) then (1 : Int32) else (0 : Int32)) else (if (F1 (0 : Int32) (1 : Int32) (1 : Int32) (0 : Int32) (0 : Int32)) = (0 : Int32) then (1 : Int32) else (0 : Int32)))))) else (if (p2 &&& (2 : Int32)) = (0 : Int32) then (if (p1 &&& (3 : Int32)) = (0 : Int32) then (if (F1 (1 : Int32) (0 : Int32) (0 : Int32) (0 : Int32) (1 : Int32)) = (0 : Int32) then (1 : Int32) else (0 : Int32)) else (if (p1 &&& (3 : Int32)) = (1 : Int32) then (if (F1 (1 : Int32) (0 : Int32) (1 : Int32) (1 : Int32) (1 : Int32)) = (1 : Int32) then (1 : Int32) else (0 : Int32)) else (if (p1 &&& (3 : Int32)) = (2 : Int32) then (if (F1 (1 : Int32) (0 : Int32) (1 : Int32) (1 : Int32) (0 : Int32)) = (1 : Int32) then (1 : Int32) else (0 : Int32)) else (if (F1 (1 : Int32) (0 : Int32) (1 : Int32) (0 : Int32) (0 : Int32)) = (1 : Int32) then (1 : Int32) else (0 : Int32))))) else (if (p1 &&& (3 : Int32)) = (0 : Int32) then (if (F1 (1 : Int32) (1 : Int32) (0 : Int32) (0 : Int32) (1 : Int32)) = (1 : Int32) then (1 : Int32) else (0 : Int32)) else (if (p1 &&& (3 : Int32)) = (1 : Int32) then (if (F1 (1 : Int32) (1 : Int32) (1 : Int32) (1 : Int32) (1 : Int32)) = (1 : Int32) then (1 : Int32) else (0 : Int32)) else (if (p1 &&& (3 : Int32)) = (2 : Int32) then (if (F1 (1 : Int32) (1 : Int32) (1 : Int32) (1 : Int32) (0 : Int32)) = (0 : Int32) then (1 : Int32) else (0 : Int32)) else (if (F1 (1 : Int32) (1 : Int32) (1 : Int32) (0 : Int32) (0 : Int32)) = (0 : Int32) then (1 : Int32) else (0 : Int32)))))))
theorem own_law (p1 p2 : Int32) : F0 p1 p2 = 1 := by
  rw [F0]
  repeat' split
  all_goals first | rfl | (rename_i h; exact absurd (by decide) h)
def Q0 (Z : State) (p1 : Int32) (p2 : Int32) (r_AND : Addr) (r_OR : Addr) (r_XOR : Addr) (r_AND_NOT : Addr) (h0 : Heap) (n0 : Nat) (v : Option Value) (h : Heap) (L : List Loc) : Prop := v = some (.int 1) ∧ Fr n0 L
set_option maxRecDepth 65536 in
set_option maxHeartbeats 40000000 in
theorem rm0 (l : Launch) (Z : State) (a0 : Array Value) (hw : ∀ d ∈ tables_1, d.before a0 Z = true) (ws : List Jvm.Cond) (p1 : Int32) (p2 : Int32) (r_AND : Addr) (r_OR : Addr) (r_XOR : Addr) (r_AND_NOT : Addr) (h0 : Heap) (n0 : Nat) (Z0 : n0 ≤ h0.size) (S_AND : Sta Z h0 "com/example/bitweave/bitweave/SetOperation" "AND" "Lcom/example/bitweave/bitweave/SetOperation;" (.ref r_AND)) (E_AND : Exa Z h0 r_AND "com/example/bitweave/bitweave/SetOperation") (F_AND_0 : Fld Z h0 r_AND "com/example/bitweave/bitweave/SetOperation" "keepsFirstOnly" "Z" (.int (0 : Int32))) (F_AND_1 : Fld Z h0 r_AND "com/example/bitweave/bitweave/SetOperation" "keepsSecondOnly" "Z" (.int (0 : Int32))) (F_AND_2 : Fld Z h0 r_AND "com/example/bitweave/bitweave/SetOperation" "keepsBoth" "Z" (.int (1 : Int32))) (S_OR : Sta Z h0 "com/example/bitweave/bitweave/SetOperation" "OR" "Lcom/example/bitweave/bitweave/SetOperation;" (.ref r_OR)) (E_OR : Exa Z h0 r_OR "com/example/bitweave/bitweave/SetOperation") (F_OR_0 : Fld Z h0 r_OR "com/example/bitweave/bitweave/SetOperation" "keepsFirstOnly" "Z" (.int (1 : Int32))) (F_OR_1 : Fld Z h0 r_OR "com/example/bitweave/bitweave/SetOperation" "keepsSecondOnly" "Z" (.int (1 : Int32))) (F_OR_2 : Fld Z h0 r_OR "com/example/bitweave/bitweave/SetOperation" "keepsBoth" "Z" (.int (1 : Int32))) (S_XOR : Sta Z h0 "com/example/bitweave/bitweave/SetOperation" "XOR" "Lcom/example/bitweave/bitweave/SetOperation;" (.ref r_XOR)) (E_XOR : Exa Z h0 r_XOR "com/example/bitweave/bitweave/SetOperation") (F_XOR_0 : Fld Z h0 r_XOR "com/example/bitweave/bitweave/SetOperation" "keepsFirstOnly" "Z" (.int (1 : Int32))) (F_XOR_1 : Fld Z h0 r_XOR "com/example/bitweave/bitweave/SetOperation" "keepsSecondOnly" "Z" (.int (1 : Int32))) (F_XOR_2 : Fld Z h0 r_XOR "com/example/bitweave/bitweave/SetOperation" "keepsBoth" "Z" (.int (0 : Int32))) (S_AND_NOT : Sta Z h0 "com/example/bitweave/bitweave/SetOperation" "AND_NOT" "Lcom/example/bitweave/bitweave/SetOperation;" (.ref r_AND_NOT)) (E_AND_NOT : Exa Z h0 r_AND_NOT "com/example/bitweave/bitweave/SetOperation") (F_AND_NOT_0 : Fld Z h0 r_AND_NOT "com/example/bitweave/bitweave/SetOperation" "keepsFirstOnly" "Z" (.int (1 : Int32))) (F_AND_NOT_1 : Fld Z h0 r_AND_NOT "com/example/bitweave/bitweave/SetOperation" "keepsSecondOnly" "Z" (.int (0 : Int32))) (F_AND_NOT_2 : Fld Z h0 r_AND_NOT "com/example/bitweave/bitweave/SetOperation" "keepsBoth" "Z" (.int (0 : Int32))) :
    MetFree l x (head1 (Jvm.Cond.code x code maxLocals ret :: ws) room_1) (fun a U => a = #[(.int p1), (.int p2)] ∧ Z.Warmed39 U.vm ∧ U.heap = h0) (fun _ _ _ _ _ => True) (fun _ U o U' => ∃ v L, o = .returned v ∧ Q0 Z p1 p2 r_AND r_OR r_XOR r_AND_NOT h0 n0 v U'.heap L ∧ FrameEnd U o U' L room_1.cells room_1.slots) := by
  refine MetFree.of_bodySF (plainFor_of_name pn_0) hisR ?_
  intro p e s m args below meth c s₁ Bd hml0 hP hK
  obtain ⟨rfl, hZ, hh⟩ := hP
  have hx := Bd.exec
  have hby := Bd.bytes
  have hml : c.maxLocals = 7 := hml0
  have hown : s.vm.findClass "com/example/bitweave/bitweave/SetOperationKeepsPinLaw" = some m.cls := findClass_of_methodNamed Bd.named
  have hnm := (name_of_methodNamed Bd.named Bd.method).1
  have X0 : Stand p l e room_1 s m #[(.int p1), (.int p2)] below meth c s₁ [] 0 0 := Stand.of_body Bd
  have e0 : s₁.heap = h0 := by rw [← hh, Bd.state]; rfl
  have N0 := Fr.nil n0
  have pre0 : ∀ t, Steps p.tables e below (s₁.setTop (mkF m 0 #[.val (.int p1), .val (.int p2), .unset, .unset, .unset, .unset, .unset] [])) t → Steps p.tables e below (s₁.setTop (entryFrame m #[(.int p1), (.int p2)] maxLocals)) t := fun t k => castTop (ef_0 m p1 p2) k
  by_cases hc7_1 : (p2 &&& (1 : Int32)) = (0 : Int32)
  · by_cases hc19_2 : (p2 &&& (2 : Int32)) = (0 : Int32)
    · by_cases hc30_3 : (p1 &&& (3 : Int32)) = (0 : Int32)
      · obtain ⟨T4, X4, e4, st4⟩ := getS2 X0 hx hZ hown (host := "") (Or.inl (hw _ (List.mem_of_getElem? (i := 0) rfl))) Via.refl e0 S_AND (g := (mkF m 33 #[.val (.int p1), .val (.int p2), .val (.int (p1 &&& (3 : Int32))), .val (.int (0 : Int32)), .val (.int (0 : Int32)), .unset, .unset] [])) rfl (hb hby at_33)
        obtain ⟨cq5, kq5, q5a, q5b, q5c⟩ := isOf hZ e4 E_AND
        obtain ⟨_, _, ⟨T5, L5, k5, n5⟩, -, X5, ⟨Lc5, hQ5, l5, y5, z5⟩, st5⟩ := X4.virtualBack hx (y := (⟨"com/example/bitweave/bitweave/SetOperation", "keeps", "(ZZ)Z"⟩ : MethodName)) (z := (⟨"com/example/bitweave/bitweave/SetOperation", "keeps", "(ZZ)Z"⟩ : MethodName)) hown (mvT hZ (hw _ (List.mem_of_getElem? (i := 3) rfl))) (mvT hZ (hw _ (List.mem_of_getElem? (i := 4) rfl))) (notFace_of_selects (args := #[]) (mvT hZ (hw _ (List.mem_of_getElem? (i := 6) rfl)))) (mvT hZ (hw _ (List.mem_of_getElem? (i := 6) rfl))) (mvT hZ (hw _ (List.mem_of_getElem? (i := 5) rfl))) (by decide) (backOf (W := 0) (rm1 l Z a0 hw [] r_AND (0 : Int32) (0 : Int32) (0 : Int32) (0 : Int32) (1 : Int32) h0 n0 Z0 F_AND_0 F_AND_1 F_AND_2) hZ (hw _ (List.mem_of_getElem? (i := 7) rfl)) (hw _ (List.mem_of_getElem? (i := 1) rfl)) (by decide) (by decide)) q5a q5c (g := (mkF m 138 #[.val (.int p1), .val (.int p2), .val (.int (p1 &&& (3 : Int32))), .val (.int (0 : Int32)), .val (.int (0 : Int32)), .val (.ref r_AND), .val (.int (0 : Int32))] [(.int (0 : Int32)), (.int (0 : Int32)), (.ref r_AND)])) rfl (by rw [hml]; rfl) (Steps.refl _) (argsL := [(.int (0 : Int32)), (.int (0 : Int32))]) (rest := []) (lenOf pd_1 rfl) rfl (by show 2 * 0 + _ ≤ _; exact Nat.le_of_eq rfl) (hb hby at_138) (fun _ _ => ⟨rfl, e4, (by decide : 0 + 0 ≤ _), (by decide : 0 + 0 ≤ _)⟩)
        dsimp only [Pt.U, Pt.locs, Pt.cells, Pt.slots] at X5 l5 y5 z5 st5 hQ5
        subst l5 y5 z5
        obtain ⟨rfl, N5q, e5⟩ := hQ5
        have N5 := Fr.app N0 N5q
        obtain ⟨fs, hr, hrun, hended, hW, hsame⟩ := X5.leave (v := some (.int (if (F1 (0 : Int32) (0 : Int32) (0 : Int32) (0 : Int32) (1 : Int32)) = (0 : Int32) then (1 : Int32) else (0 : Int32)))) (fun h => by rw [Bd.returns] at h; cases h)
        refine ⟨_, _, pre0 _ ?_, hrun, hended, _, _, rfl, ?_, ⟨_, rfl⟩, hW, hsame.mono (by decide) (by decide)⟩
        · show Steps p.tables e below (s₁.setTop (mkF m 0 #[.val (.int p1), .val (.int p2), .unset, .unset, .unset, .unset, .unset] [])) _
          refine XS.iloadN X0.here hx rfl (hb hby at_0) rfl ?_
          show Steps p.tables e below (s₁.setTop (mkF m 1 #[.val (.int p1), .val (.int p2), .unset, .unset, .unset, .unset, .unset] [(.int p1)])) _
          refine XS.iconst X0.here hx rfl (hb hby at_1) ?_
          show Steps p.tables e below (s₁.setTop (mkF m 2 #[.val (.int p1), .val (.int p2), .unset, .unset, .unset, .unset, .unset] [(.int (3 : Int32)), (.int p1)])) _
          refine XS.iand X0.here hx rfl (hb hby at_2) rfl ?_
          show Steps p.tables e below (s₁.setTop (mkF m 3 #[.val (.int p1), .val (.int p2), .unset, .unset, .unset, .unset, .unset] [(.int (p1 &&& (3 : Int32)))])) _
          refine XS.istoreN X0.here hx rfl (hb hby at_3) rfl (l' := #[.val (.int p1), .val (.int p2), .val (.int (p1 &&& (3 : Int32))), .unset, .unset, .unset, .unset]) rfl ?_
          show Steps p.tables e below (s₁.setTop (mkF m 4 #[.val (.int p1), .val (.int p2), .val (.int (p1 &&& (3 : Int32))), .unset, .unset, .unset, .unset] [])) _
          refine XS.iloadN X0.here hx rfl (hb hby at_4) rfl ?_
          show Steps p.tables e below (s₁.setTop (mkF m 5 #[.val (.int p1), .val (.int p2), .val (.int (p1 &&& (3 : Int32))), .unset, .unset, .unset, .unset] [(.int p2)])) _
          refine XS.iconst X0.here hx rfl (hb hby at_5) ?_
          show Steps p.tables e below (s₁.setTop (mkF m 6 #[.val (.int p1), .val (.int p2), .val (.int (p1 &&& (3 : Int32))), .unset, .unset, .unset, .unset] [(.int (1 : Int32)), (.int p2)])) _
          refine XS.iand X0.here hx rfl (hb hby at_6) rfl ?_
          show Steps p.tables e below (s₁.setTop (mkF m 7 #[.val (.int p1), .val (.int p2), .val (.int (p1 &&& (3 : Int32))), .unset, .unset, .unset, .unset] [(.int (p2 &&& (1 : Int32)))])) _
          refine XS.ifYes X0.here hx rfl (pc0 := 7) (pc' := 14) rfl (hb hby at_7) rfl ((if0 _ _).trans (teq hc7_1).1) (by decide) (by decide) ?_
          show Steps p.tables e below (s₁.setTop (mkF m 14 #[.val (.int p1), .val (.int p2), .val (.int (p1 &&& (3 : Int32))), .unset, .unset, .unset, .unset] [])) _
          refine XS.iconst X0.here hx rfl (hb hby at_14) ?_
          show Steps p.tables e below (s₁.setTop (mkF m 15 #[.val (.int p1), .val (.int p2), .val (.int (p1 &&& (3 : Int32))), .unset, .unset, .unset, .unset] [(.int (0 : Int32))])) _
          refine XS.istoreN X0.here hx rfl (hb hby at_15) rfl (l' := #[.val (.int p1), .val (.int p2), .val (.int (p1 &&& (3 : Int32))), .val (.int (0 : Int32)), .unset, .unset, .unset]) rfl ?_
          show Steps p.tables e below (s₁.setTop (mkF m 16 #[.val (.int p1), .val (.int p2), .val (.int (p1 &&& (3 : Int32))), .val (.int (0 : Int32)), .unset, .unset, .unset] [])) _
          refine XS.iloadN X0.here hx rfl (hb hby at_16) rfl ?_
          show Steps p.tables e below (s₁.setTop (mkF m 17 #[.val (.int p1), .val (.int p2), .val (.int (p1 &&& (3 : Int32))), .val (.int (0 : Int32)), .unset, .unset, .unset] [(.int p2)])) _
          refine XS.iconst X0.here hx rfl (hb hby at_17) ?_
          show Steps p.tables e below (s₁.setTop (mkF m 18 #[.val (.int p1), .val (.int p2), .val (.int (p1 &&& (3 : Int32))), .val (.int (0 : Int32)), .unset, .unset, .unset] [(.int (2 : Int32)), (.int p2)])) _
          refine XS.iand X0.here hx rfl (hb hby at_18) rfl ?_
          show Steps p.tables e below (s₁.setTop (mkF m 19 #[.val (.int p1), .val (.int p2), .val (.int (p1 &&& (3 : Int32))), .val (.int (0 : Int32)), .unset, .unset, .unset] [(.int (p2 &&& (2 : Int32)))])) _
          refine XS.ifYes X0.here hx rfl (pc0 := 19) (pc' := 26) rfl (hb hby at_19) rfl ((if0 _ _).trans (teq hc19_2).1) (by decide) (by decide) ?_
          show Steps p.tables e below (s₁.setTop (mkF m 26 #[.val (.int p1), .val (.int p2), .val (.int (p1 &&& (3 : Int32))), .val (.int (0 : Int32)), .unset, .unset, .unset] [])) _
          refine XS.iconst X0.here hx rfl (hb hby at_26) ?_
          show Steps p.tables e below (s₁.setTop (mkF m 27 #[.val (.int p1), .val (.int p2), .val (.int (p1 &&& (3 : Int32))), .val (.int (0 : Int32)), .unset, .unset, .unset] [(.int (0 : Int32))])) _
          refine XS.istore X0.here hx rfl (hb hby at_27) rfl (l' := #[.val (.int p1), .val (.int p2), .val (.int (p1 &&& (3 : Int32))), .val (.int (0 : Int32)), .val (.int (0 : Int32)), .unset, .unset]) rfl ?_
          show Steps p.tables e below (s₁.setTop (mkF m 29 #[.val (.int p1), .val (.int p2), .val (.int (p1 &&& (3 : Int32))), .val (.int (0 : Int32)), .val (.int (0 : Int32)), .unset, .unset] [])) _
          refine XS.iloadN X0.here hx rfl (hb hby at_29) rfl ?_
          show Steps p.tables e below (s₁.setTop (mkF m 30 #[.val (.int p1), .val (.int p2), .val (.int (p1 &&& (3 : Int32))), .val (.int (0 : Int32)), .val (.int (0 : Int32)), .unset, .unset] [(.int (p1 &&& (3 : Int32)))])) _
          refine XS.ifNo X0.here hx rfl (hb hby at_30) rfl ((if0 _ _).trans (teq hc30_3).2) ?_
          show Steps p.tables e below (s₁.setTop (mkF m 33 #[.val (.int p1), .val (.int p2), .val (.int (p1 &&& (3 : Int32))), .val (.int (0 : Int32)), .val (.int (0 : Int32)), .unset, .unset] [])) _
          refine st4 _ ?_
          show Steps p.tables e below (T4.setTop (mkF m 36 #[.val (.int p1), .val (.int p2), .val (.int (p1 &&& (3 : Int32))), .val (.int (0 : Int32)), .val (.int (0 : Int32)), .unset, .unset] [(.ref r_AND)])) _
          refine XS.astore X4.here hx rfl (hb hby at_36) rfl rfl (l' := #[.val (.int p1), .val (.int p2), .val (.int (p1 &&& (3 : Int32))), .val (.int (0 : Int32)), .val (.int (0 : Int32)), .val (.ref r_AND), .unset]) rfl ?_
          show Steps p.tables e below (T4.setTop (mkF m 38 #[.val (.int p1), .val (.int p2), .val (.int (p1 &&& (3 : Int32))), .val (.int (0 : Int32)), .val (.int (0 : Int32)), .val (.ref r_AND), .unset] [])) _
          refine XS.iloadN X4.here hx rfl (hb hby at_38) rfl ?_
          show Steps p.tables e below (T4.setTop (mkF m 39 #[.val (.int p1), .val (.int p2), .val (.int (p1 &&& (3 : Int32))), .val (.int (0 : Int32)), .val (.int (0 : Int32)), .val (.ref r_AND), .unset] [(.int (0 : Int32))])) _
          refine XS.ifYes X4.here hx rfl (pc0 := 39) (pc' := 51) rfl (hb hby at_39) rfl ((if0 _ _).trans (teq (rfl : (0 : Int32) = (0 : Int32))).1) (by decide) (by decide) ?_
          show Steps p.tables e below (T4.setTop (mkF m 51 #[.val (.int p1), .val (.int p2), .val (.int (p1 &&& (3 : Int32))), .val (.int (0 : Int32)), .val (.int (0 : Int32)), .val (.ref r_AND), .unset] [])) _
          refine XS.iconst X4.here hx rfl (hb hby at_51) ?_
          show Steps p.tables e below (T4.setTop (mkF m 52 #[.val (.int p1), .val (.int p2), .val (.int (p1 &&& (3 : Int32))), .val (.int (0 : Int32)), .val (.int (0 : Int32)), .val (.ref r_AND), .unset] [(.int (0 : Int32))])) _
          refine XS.istore X4.here hx rfl (hb hby at_52) rfl (l' := #[.val (.int p1), .val (.int p2), .val (.int (p1 &&& (3 : Int32))), .val (.int (0 : Int32)), .val (.int (0 : Int32)), .val (.ref r_AND), .val (.int (0 : Int32))]) rfl ?_
          show Steps p.tables e below (T4.setTop (mkF m 54 #[.val (.int p1), .val (.int p2), .val (.int (p1 &&& (3 : Int32))), .val (.int (0 : Int32)), .val (.int (0 : Int32)), .val (.ref r_AND), .val (.int (0 : Int32))] [])) _
          refine XS.goto X4.here hx rfl (pc0 := 54) (pc' := 133) rfl (hb hby at_54) (by decide) (by decide) ?_
          show Steps p.tables e below (T4.setTop (mkF m 133 #[.val (.int p1), .val (.int p2), .val (.int (p1 &&& (3 : Int32))), .val (.int (0 : Int32)), .val (.int (0 : Int32)), .val (.ref r_AND), .val (.int (0 : Int32))] [])) _
          refine XS.aload X4.here hx rfl (hb hby at_133) rfl rfl ?_
          show Steps p.tables e below (T4.setTop (mkF m 135 #[.val (.int p1), .val (.int p2), .val (.int (p1 &&& (3 : Int32))), .val (.int (0 : Int32)), .val (.int (0 : Int32)), .val (.ref r_AND), .val (.int (0 : Int32))] [(.ref r_AND)])) _
          refine XS.iloadN X4.here hx rfl (hb hby at_135) rfl ?_
          show Steps p.tables e below (T4.setTop (mkF m 136 #[.val (.int p1), .val (.int p2), .val (.int (p1 &&& (3 : Int32))), .val (.int (0 : Int32)), .val (.int (0 : Int32)), .val (.ref r_AND), .val (.int (0 : Int32))] [(.int (0 : Int32)), (.ref r_AND)])) _
          refine XS.iload X4.here hx rfl (hb hby at_136) rfl ?_
          show Steps p.tables e below (T4.setTop (mkF m 138 #[.val (.int p1), .val (.int p2), .val (.int (p1 &&& (3 : Int32))), .val (.int (0 : Int32)), .val (.int (0 : Int32)), .val (.ref r_AND), .val (.int (0 : Int32))] [(.int (0 : Int32)), (.int (0 : Int32)), (.ref r_AND)])) _
          refine st5.trans ?_
          show Steps p.tables e below (T5.setTop (mkF m 141 #[.val (.int p1), .val (.int p2), .val (.int (p1 &&& (3 : Int32))), .val (.int (0 : Int32)), .val (.int (0 : Int32)), .val (.ref r_AND), .val (.int (0 : Int32))] [(.int (F1 (0 : Int32) (0 : Int32) (0 : Int32) (0 : Int32) (1 : Int32)))])) _
          refine XS.iload X5.here hx rfl (hb hby at_141) rfl ?_
          show Steps p.tables e below (T5.setTop (mkF m 143 #[.val (.int p1), .val (.int p2), .val (.int (p1 &&& (3 : Int32))), .val (.int (0 : Int32)), .val (.int (0 : Int32)), .val (.ref r_AND), .val (.int (0 : Int32))] [(.int (0 : Int32)), (.int (F1 (0 : Int32) (0 : Int32) (0 : Int32) (0 : Int32) (1 : Int32)))])) _
          by_cases hc143_6 : (F1 (0 : Int32) (0 : Int32) (0 : Int32) (0 : Int32) (1 : Int32)) = (0 : Int32)
          · refine XS.icmpNo X5.here hx rfl (hb hby at_143) rfl (teq hc143_6).2 ?_
            show Steps p.tables e below (T5.setTop (mkF m 146 #[.val (.int p1), .val (.int p2), .val (.int (p1 &&& (3 : Int32))), .val (.int (0 : Int32)), .val (.int (0 : Int32)), .val (.ref r_AND), .val (.int (0 : Int32))] [])) _
            refine XS.iconst X5.here hx rfl (hb hby at_146) ?_
            show Steps p.tables e below (T5.setTop (mkF m 147 #[.val (.int p1), .val (.int p2), .val (.int (p1 &&& (3 : Int32))), .val (.int (0 : Int32)), .val (.int (0 : Int32)), .val (.ref r_AND), .val (.int (0 : Int32))] [(.int (1 : Int32))])) _
            refine XS.goto X5.here hx rfl (pc0 := 147) (pc' := 151) rfl (hb hby at_147) (by decide) (by decide) ?_
            show Steps p.tables e below (T5.setTop (mkF m 151 #[.val (.int p1), .val (.int p2), .val (.int (p1 &&& (3 : Int32))), .val (.int (0 : Int32)), .val (.int (0 : Int32)), .val (.ref r_AND), .val (.int (0 : Int32))] [(.int (1 : Int32))])) _
            rw [if_pos hc143_6] at hr
            exact retN X5 hx (t := .boolean) Bd.returns (by simp) (hb hby at_151) hr
          · refine XS.icmpYes X5.here hx rfl (pc0 := 143) (pc' := 150) rfl (hb hby at_143) rfl (feq hc143_6).2 (by decide) (by decide) ?_
            show Steps p.tables e below (T5.setTop (mkF m 150 #[.val (.int p1), .val (.int p2), .val (.int (p1 &&& (3 : Int32))), .val (.int (0 : Int32)), .val (.int (0 : Int32)), .val (.ref r_AND), .val (.int (0 : Int32))] [])) _
            refine XS.iconst X5.here hx rfl (hb hby at_150) ?_
            show Steps p.tables e below (T5.setTop (mkF m 151 #[.val (.int p1), .val (.int p2), .val (.int (p1 &&& (3 : Int32))), .val (.int (0 : Int32)), .val (.int (0 : Int32)), .val (.ref r_AND), .val (.int (0 : Int32))] [(.int (0 : Int32))])) _
            rw [if_neg hc143_6] at hr
            exact retN X5 hx (t := .boolean) Bd.returns (by simp) (hb hby at_151) hr
        · show Q0 Z p1 p2 r_AND r_OR r_XOR r_AND_NOT h0 n0 _ T5.heap _
          rw [e5]
          exact ⟨congrArg (fun z => some (Value.int z)) ((show F0 p1 p2 = (if (F1 (0 : Int32) (0 : Int32) (0 : Int32) (0 : Int32) (1 : Int32)) = (0 : Int32) then (1 : Int32) else (0 : Int32)) by rw [F0, if_pos hc7_1, if_pos hc19_2, if_pos hc30_3]).symm.trans (own_law p1 p2)), N5⟩
      · by_cases hc59_7 : (p1 &&& (3 : Int32)) = (1 : Int32)
        · obtain ⟨T8, X8, e8, st8⟩ := getS2 X0 hx hZ hown (host := "") (Or.inl (hw _ (List.mem_of_getElem? (i := 14) rfl))) Via.refl e0 S_OR (g := (mkF m 62 #[.val (.int p1), .val (.int p2), .val (.int (p1 &&& (3 : Int32))), .val (.int (0 : Int32)), .val (.int (0 : Int32)), .unset, .unset] [])) rfl (hb hby at_62)
          obtain ⟨cq9, kq9, q9a, q9b, q9c⟩ := isOf hZ e8 E_OR
          obtain ⟨_, _, ⟨T9, L9, k9, n9⟩, -, X9, ⟨Lc9, hQ9, l9, y9, z9⟩, st9⟩ := X8.virtualBack hx (y := (⟨"com/example/bitweave/bitweave/SetOperation", "keeps", "(ZZ)Z"⟩ : MethodName)) (z := (⟨"com/example/bitweave/bitweave/SetOperation", "keeps", "(ZZ)Z"⟩ : MethodName)) hown (mvT hZ (hw _ (List.mem_of_getElem? (i := 3) rfl))) (mvT hZ (hw _ (List.mem_of_getElem? (i := 4) rfl))) (notFace_of_selects (args := #[]) (mvT hZ (hw _ (List.mem_of_getElem? (i := 6) rfl)))) (mvT hZ (hw _ (List.mem_of_getElem? (i := 6) rfl))) (mvT hZ (hw _ (List.mem_of_getElem? (i := 5) rfl))) (by decide) (backOf (W := 0) (rm1 l Z a0 hw [] r_OR (0 : Int32) (0 : Int32) (1 : Int32) (1 : Int32) (1 : Int32) h0 n0 Z0 F_OR_0 F_OR_1 F_OR_2) hZ (hw _ (List.mem_of_getElem? (i := 7) rfl)) (hw _ (List.mem_of_getElem? (i := 1) rfl)) (by decide) (by decide)) q9a q9c (g := (mkF m 138 #[.val (.int p1), .val (.int p2), .val (.int (p1 &&& (3 : Int32))), .val (.int (0 : Int32)), .val (.int (0 : Int32)), .val (.ref r_OR), .val (.int (0 : Int32))] [(.int (0 : Int32)), (.int (0 : Int32)), (.ref r_OR)])) rfl (by rw [hml]; rfl) (Steps.refl _) (argsL := [(.int (0 : Int32)), (.int (0 : Int32))]) (rest := []) (lenOf pd_1 rfl) rfl (by show 2 * 0 + _ ≤ _; exact Nat.le_of_eq rfl) (hb hby at_138) (fun _ _ => ⟨rfl, e8, (by decide : 0 + 0 ≤ _), (by decide : 0 + 0 ≤ _)⟩)
          dsimp only [Pt.U, Pt.locs, Pt.cells, Pt.slots] at X9 l9 y9 z9 st9 hQ9
          subst l9 y9 z9
          obtain ⟨rfl, N9q, e9⟩ := hQ9
          have N9 := Fr.app N0 N9q
          obtain ⟨fs, hr, hrun, hended, hW, hsame⟩ := X9.leave (v := some (.int (if (F1 (0 : Int32) (0 : Int32) (1 : Int32) (1 : Int32) (1 : Int32)) = (0 : Int32) then (1 : Int32) else (0 : Int32)))) (fun h => by rw [Bd.returns] at h; cases h)
          refine ⟨_, _, pre0 _ ?_, hrun, hended, _, _, rfl, ?_, ⟨_, rfl⟩, hW, hsame.mono (by decide) (by decide)⟩
          · show Steps p.tables e below (s₁.setTop (mkF m 0 #[.val (.int p1), .val (.int p2), .unset, .unset, .unset, .unset, .unset] [])) _
            refine XS.iloadN X0.here hx rfl (hb hby at_0) rfl ?_
            show Steps p.tables e below (s₁.setTop (mkF m 1 #[.val (.int p1), .val (.int p2), .unset, .unset, .unset, .unset, .unset] [(.int p1)])) _
            refine XS.iconst X0.here hx rfl (hb hby at_1) ?_
            show Steps p.tables e below (s₁.setTop (mkF m 2 #[.val (.int p1), .val (.int p2), .unset, .unset, .unset, .unset, .unset] [(.int (3 : Int32)), (.int p1)])) _
            refine XS.iand X0.here hx rfl (hb hby at_2) rfl ?_
            show Steps p.tables e below (s₁.setTop (mkF m 3 #[.val (.int p1), .val (.int p2), .unset, .unset, .unset, .unset, .unset] [(.int (p1 &&& (3 : Int32)))])) _
            refine XS.istoreN X0.here hx rfl (hb hby at_3) rfl (l' := #[.val (.int p1), .val (.int p2), .val (.int (p1 &&& (3 : Int32))), .unset, .unset, .unset, .unset]) rfl ?_
            show Steps p.tables e below (s₁.setTop (mkF m 4 #[.val (.int p1), .val (.int p2), .val (.int (p1 &&& (3 : Int32))), .unset, .unset, .unset, .unset] [])) _
            refine XS.iloadN X0.here hx rfl (hb hby at_4) rfl ?_
            show Steps p.tables e below (s₁.setTop (mkF m 5 #[.val (.int p1), .val (.int p2), .val (.int (p1 &&& (3 : Int32))), .unset, .unset, .unset, .unset] [(.int p2)])) _
            refine XS.iconst X0.here hx rfl (hb hby at_5) ?_
            show Steps p.tables e below (s₁.setTop (mkF m 6 #[.val (.int p1), .val (.int p2), .val (.int (p1 &&& (3 : Int32))), .unset, .unset, .unset, .unset] [(.int (1 : Int32)), (.int p2)])) _
            refine XS.iand X0.here hx rfl (hb hby at_6) rfl ?_
            show Steps p.tables e below (s₁.setTop (mkF m 7 #[.val (.int p1), .val (.int p2), .val (.int (p1 &&& (3 : Int32))), .unset, .unset, .unset, .unset] [(.int (p2 &&& (1 : Int32)))])) _
            refine XS.ifYes X0.here hx rfl (pc0 := 7) (pc' := 14) rfl (hb hby at_7) rfl ((if0 _ _).trans (teq hc7_1).1) (by decide) (by decide) ?_
            show Steps p.tables e below (s₁.setTop (mkF m 14 #[.val (.int p1), .val (.int p2), .val (.int (p1 &&& (3 : Int32))), .unset, .unset, .unset, .unset] [])) _
            refine XS.iconst X0.here hx rfl (hb hby at_14) ?_
            show Steps p.tables e below (s₁.setTop (mkF m 15 #[.val (.int p1), .val (.int p2), .val (.int (p1 &&& (3 : Int32))), .unset, .unset, .unset, .unset] [(.int (0 : Int32))])) _
            refine XS.istoreN X0.here hx rfl (hb hby at_15) rfl (l' := #[.val (.int p1), .val (.int p2), .val (.int (p1 &&& (3 : Int32))), .val (.int (0 : Int32)), .unset, .unset, .unset]) rfl ?_
            show Steps p.tables e below (s₁.setTop (mkF m 16 #[.val (.int p1), .val (.int p2), .val (.int (p1 &&& (3 : Int32))), .val (.int (0 : Int32)), .unset, .unset, .unset] [])) _
            refine XS.iloadN X0.here hx rfl (hb hby at_16) rfl ?_
            show Steps p.tables e below (s₁.setTop (mkF m 17 #[.val (.int p1), .val (.int p2), .val (.int (p1 &&& (3 : Int32))), .val (.int (0 : Int32)), .unset, .unset, .unset] [(.int p2)])) _
            refine XS.iconst X0.here hx rfl (hb hby at_17) ?_
            show Steps p.tables e below (s₁.setTop (mkF m 18 #[.val (.int p1), .val (.int p2), .val (.int (p1 &&& (3 : Int32))), .val (.int (0 : Int32)), .unset, .unset, .unset] [(.int (2 : Int32)), (.int p2)])) _
            refine XS.iand X0.here hx rfl (hb hby at_18) rfl ?_
            show Steps p.tables e below (s₁.setTop (mkF m 19 #[.val (.int p1), .val (.int p2), .val (.int (p1 &&& (3 : Int32))), .val (.int (0 : Int32)), .unset, .unset, .unset] [(.int (p2 &&& (2 : Int32)))])) _
            refine XS.ifYes X0.here hx rfl (pc0 := 19) (pc' := 26) rfl (hb hby at_19) rfl ((if0 _ _).trans (teq hc19_2).1) (by decide) (by decide) ?_
            show Steps p.tables e below (s₁.setTop (mkF m 26 #[.val (.int p1), .val (.int p2), .val (.int (p1 &&& (3 : Int32))), .val (.int (0 : Int32)), .unset, .unset, .unset] [])) _
            refine XS.iconst X0.here hx rfl (hb hby at_26) ?_
            show Steps p.tables e below (s₁.setTop (mkF m 27 #[.val (.int p1), .val (.int p2), .val (.int (p1 &&& (3 : Int32))), .val (.int (0 : Int32)), .unset, .unset, .unset] [(.int (0 : Int32))])) _
            refine XS.istore X0.here hx rfl (hb hby at_27) rfl (l' := #[.val (.int p1), .val (.int p2), .val (.int (p1 &&& (3 : Int32))), .val (.int (0 : Int32)), .val (.int (0 : Int32)), .unset, .unset]) rfl ?_
            show Steps p.tables e below (s₁.setTop (mkF m 29 #[.val (.int p1), .val (.int p2), .val (.int (p1 &&& (3 : Int32))), .val (.int (0 : Int32)), .val (.int (0 : Int32)), .unset, .unset] [])) _
            refine XS.iloadN X0.here hx rfl (hb hby at_29) rfl ?_
            show Steps p.tables e below (s₁.setTop (mkF m 30 #[.val (.int p1), .val (.int p2), .val (.int (p1 &&& (3 : Int32))), .val (.int (0 : Int32)), .val (.int (0 : Int32)), .unset, .unset] [(.int (p1 &&& (3 : Int32)))])) _
            refine XS.ifYes X0.here hx rfl (pc0 := 30) (pc' := 57) rfl (hb hby at_30) rfl ((if0 _ _).trans (feq hc30_3).2) (by decide) (by decide) ?_
            show Steps p.tables e below (s₁.setTop (mkF m 57 #[.val (.int p1), .val (.int p2), .val (.int (p1 &&& (3 : Int32))), .val (.int (0 : Int32)), .val (.int (0 : Int32)), .unset, .unset] [])) _
            refine XS.iloadN X0.here hx rfl (hb hby at_57) rfl ?_
            show Steps p.tables e below (s₁.setTop (mkF m 58 #[.val (.int p1), .val (.int p2), .val (.int (p1 &&& (3 : Int32))), .val (.int (0 : Int32)), .val (.int (0 : Int32)), .unset, .unset] [(.int (p1 &&& (3 : Int32)))])) _
            refine XS.iconst X0.here hx rfl (hb hby at_58) ?_
            show Steps p.tables e below (s₁.setTop (mkF m 59 #[.val (.int p1), .val (.int p2), .val (.int (p1 &&& (3 : Int32))), .val (.int (0 : Int32)), .val (.int (0 : Int32)), .unset, .unset] [(.int (1 : Int32)), (.int (p1 &&& (3 : Int32)))])) _
            refine XS.icmpNo X0.here hx rfl (hb hby at_59) rfl (teq hc59_7).2 ?_
            show Steps p.tables e below (s₁.setTop (mkF m 62 #[.val (.int p1), .val (.int p2), .val (.int (p1 &&& (3 : Int32))), .val (.int (0 : Int32)), .val (.int (0 : Int32)), .unset, .unset] [])) _
            refine st8 _ ?_
            show Steps p.tables e below (T8.setTop (mkF m 65 #[.val (.int p1), .val (.int p2), .val (.int (p1 &&& (3 : Int32))), .val (.int (0 : Int32)), .val (.int (0 : Int32)), .unset, .unset] [(.ref r_OR)])) _
            refine XS.astore X8.here hx rfl (hb hby at_65) rfl rfl (l' := #[.val (.int p1), .val (.int p2), .val (.int (p1 &&& (3 : Int32))), .val (.int (0 : Int32)), .val (.int (0 : Int32)), .val (.ref r_OR), .unset]) rfl ?_
            show Steps p.tables e below (T8.setTop (mkF m 67 #[.val (.int p1), .val (.int p2), .val (.int (p1 &&& (3 : Int32))), .val (.int (0 : Int32)), .val (.int (0 : Int32)), .val (.ref r_OR), .unset] [])) _
            refine XS.iloadN X8.here hx rfl (hb hby at_67) rfl ?_
            show Steps p.tables e below (T8.setTop (mkF m 68 #[.val (.int p1), .val (.int p2), .val (.int (p1 &&& (3 : Int32))), .val (.int (0 : Int32)), .val (.int (0 : Int32)), .val (.ref r_OR), .unset] [(.int (0 : Int32))])) _
            refine XS.ifNo X8.here hx rfl (hb hby at_68) rfl ((if0 _ _).trans (teq (rfl : (0 : Int32) = (0 : Int32))).2) ?_
            show Steps p.tables e below (T8.setTop (mkF m 71 #[.val (.int p1), .val (.int p2), .val (.int (p1 &&& (3 : Int32))), .val (.int (0 : Int32)), .val (.int (0 : Int32)), .val (.ref r_OR), .unset] [])) _
            refine XS.iload X8.here hx rfl (hb hby at_71) rfl ?_
            show Steps p.tables e below (T8.setTop (mkF m 73 #[.val (.int p1), .val (.int p2), .val (.int (p1 &&& (3 : Int32))), .val (.int (0 : Int32)), .val (.int (0 : Int32)), .val (.ref r_OR), .unset] [(.int (0 : Int32))])) _
            refine XS.ifYes X8.here hx rfl (pc0 := 73) (pc' := 80) rfl (hb hby at_73) rfl ((if0 _ _).trans (teq (rfl : (0 : Int32) = (0 : Int32))).1) (by decide) (by decide) ?_
            show Steps p.tables e below (T8.setTop (mkF m 80 #[.val (.int p1), .val (.int p2), .val (.int (p1 &&& (3 : Int32))), .val (.int (0 : Int32)), .val (.int (0 : Int32)), .val (.ref r_OR), .unset] [])) _
            refine XS.iconst X8.here hx rfl (hb hby at_80) ?_
            show Steps p.tables e below (T8.setTop (mkF m 81 #[.val (.int p1), .val (.int p2), .val (.int (p1 &&& (3 : Int32))), .val (.int (0 : Int32)), .val (.int (0 : Int32)), .val (.ref r_OR), .unset] [(.int (0 : Int32))])) _
            refine XS.istore X8.here hx rfl (hb hby at_81) rfl (l' := #[.val (.int p1), .val (.int p2), .val (.int (p1 &&& (3 : Int32))), .val (.int (0 : Int32)), .val (.int (0 : Int32)), .val (.ref r_OR), .val (.int (0 : Int32))]) rfl ?_
            show Steps p.tables e below (T8.setTop (mkF m 83 #[.val (.int p1), .val (.int p2), .val (.int (p1 &&& (3 : Int32))), .val (.int (0 : Int32)), .val (.int (0 : Int32)), .val (.ref r_OR), .val (.int (0 : Int32))] [])) _
            refine XS.goto X8.here hx rfl (pc0 := 83) (pc' := 133) rfl (hb hby at_83) (by decide) (by decide) ?_
            show Steps p.tables e below (T8.setTop (mkF m 133 #[.val (.int p1), .val (.int p2), .val (.int (p1 &&& (3 : Int32))), .val (.int (0 : Int32)), .val (.int (0 : Int32)), .val (.ref r_OR), .val (.int (0 : Int32))] [])) _
            refine XS.aload X8.here hx rfl (hb hby at_133) rfl rfl ?_
            show Steps p.tables e below (T8.setTop (mkF m 135 #[.val (.int p1), .val (.int p2), .val (.int (p1 &&& (3 : Int32))), .val (.int (0 : Int32)), .val (.int (0 : Int32)), .val (.ref r_OR), .val (.int (0 : Int32))] [(.ref r_OR)])) _
            refine XS.iloadN X8.here hx rfl (hb hby at_135) rfl ?_
            show Steps p.tables e below (T8.setTop (mkF m 136 #[.val (.int p1), .val (.int p2), .val (.int (p1 &&& (3 : Int32))), .val (.int (0 : Int32)), .val (.int (0 : Int32)), .val (.ref r_OR), .val (.int (0 : Int32))] [(.int (0 : Int32)), (.ref r_OR)])) _
            refine XS.iload X8.here hx rfl (hb hby at_136) rfl ?_
            show Steps p.tables e below (T8.setTop (mkF m 138 #[.val (.int p1), .val (.int p2), .val (.int (p1 &&& (3 : Int32))), .val (.int (0 : Int32)), .val (.int (0 : Int32)), .val (.ref r_OR), .val (.int (0 : Int32))] [(.int (0 : Int32)), (.int (0 : Int32)), (.ref r_OR)])) _
            refine st9.trans ?_
            show Steps p.tables e below (T9.setTop (mkF m 141 #[.val (.int p1), .val (.int p2), .val (.int (p1 &&& (3 : Int32))), .val (.int (0 : Int32)), .val (.int (0 : Int32)), .val (.ref r_OR), .val (.int (0 : Int32))] [(.int (F1 (0 : Int32) (0 : Int32) (1 : Int32) (1 : Int32) (1 : Int32)))])) _
            refine XS.iload X9.here hx rfl (hb hby at_141) rfl ?_
            show Steps p.tables e below (T9.setTop (mkF m 143 #[.val (.int p1), .val (.int p2), .val (.int (p1 &&& (3 : Int32))), .val (.int (0 : Int32)), .val (.int (0 : Int32)), .val (.ref r_OR), .val (.int (0 : Int32))] [(.int (0 : Int32)), (.int (F1 (0 : Int32) (0 : Int32) (1 : Int32) (1 : Int32) (1 : Int32)))])) _
            by_cases hc143_10 : (F1 (0 : Int32) (0 : Int32) (1 : Int32) (1 : Int32) (1 : Int32)) = (0 : Int32)
            · refine XS.icmpNo X9.here hx rfl (hb hby at_143) rfl (teq hc143_10).2 ?_
              show Steps p.tables e below (T9.setTop (mkF m 146 #[.val (.int p1), .val (.int p2), .val (.int (p1 &&& (3 : Int32))), .val (.int (0 : Int32)), .val (.int (0 : Int32)), .val (.ref r_OR), .val (.int (0 : Int32))] [])) _
              refine XS.iconst X9.here hx rfl (hb hby at_146) ?_
              show Steps p.tables e below (T9.setTop (mkF m 147 #[.val (.int p1), .val (.int p2), .val (.int (p1 &&& (3 : Int32))), .val (.int (0 : Int32)), .val (.int (0 : Int32)), .val (.ref r_OR), .val (.int (0 : Int32))] [(.int (1 : Int32))])) _
              refine XS.goto X9.here hx rfl (pc0 := 147) (pc' := 151) rfl (hb hby at_147) (by decide) (by decide) ?_
              show Steps p.tables e below (T9.setTop (mkF m 151 #[.val (.int p1), .val (.int p2), .val (.int (p1 &&& (3 : Int32))), .val (.int (0 : Int32)), .val (.int (0 : Int32)), .val (.ref r_OR), .val (.int (0 : Int32))] [(.int (1 : Int32))])) _
              rw [if_pos hc143_10] at hr
              exact retN X9 hx (t := .boolean) Bd.returns (by simp) (hb hby at_151) hr
            · refine XS.icmpYes X9.here hx rfl (pc0 := 143) (pc' := 150) rfl (hb hby at_143) rfl (feq hc143_10).2 (by decide) (by decide) ?_
              show Steps p.tables e below (T9.setTop (mkF m 150 #[.val (.int p1), .val (.int p2), .val (.int (p1 &&& (3 : Int32))), .val (.int (0 : Int32)), .val (.int (0 : Int32)), .val (.ref r_OR), .val (.int (0 : Int32))] [])) _
              refine XS.iconst X9.here hx rfl (hb hby at_150) ?_
              show Steps p.tables e below (T9.setTop (mkF m 151 #[.val (.int p1), .val (.int p2), .val (.int (p1 &&& (3 : Int32))), .val (.int (0 : Int32)), .val (.int (0 : Int32)), .val (.ref r_OR), .val (.int (0 : Int32))] [(.int (0 : Int32))])) _
              rw [if_neg hc143_10] at hr
              exact retN X9 hx (t := .boolean) Bd.returns (by simp) (hb hby at_151) hr
          · show Q0 Z p1 p2 r_AND r_OR r_XOR r_AND_NOT h0 n0 _ T9.heap _
            rw [e9]
            exact ⟨congrArg (fun z => some (Value.int z)) ((show F0 p1 p2 = (if (F1 (0 : Int32) (0 : Int32) (1 : Int32) (1 : Int32) (1 : Int32)) = (0 : Int32) then (1 : Int32) else (0 : Int32)) by rw [F0, if_pos hc7_1, if_pos hc19_2, if_neg hc30_3, if_pos hc59_7]).symm.trans (own_law p1 p2)), N9⟩
        · by_cases hc88_11 : (p1 &&& (3 : Int32)) = (2 : Int32)
          · obtain ⟨T12, X12, e12, st12⟩ := getS2 X0 hx hZ hown (host := "") (Or.inl (hw _ (List.mem_of_getElem? (i := 10) rfl))) Via.refl e0 S_XOR (g := (mkF m 91 #[.val (.int p1), .val (.int p2), .val (.int (p1 &&& (3 : Int32))), .val (.int (0 : Int32)), .val (.int (0 : Int32)), .unset, .unset] [])) rfl (hb hby at_91)
            obtain ⟨cq13, kq13, q13a, q13b, q13c⟩ := isOf hZ e12 E_XOR
            obtain ⟨_, _, ⟨T13, L13, k13, n13⟩, -, X13, ⟨Lc13, hQ13, l13, y13, z13⟩, st13⟩ := X12.virtualBack hx (y := (⟨"com/example/bitweave/bitweave/SetOperation", "keeps", "(ZZ)Z"⟩ : MethodName)) (z := (⟨"com/example/bitweave/bitweave/SetOperation", "keeps", "(ZZ)Z"⟩ : MethodName)) hown (mvT hZ (hw _ (List.mem_of_getElem? (i := 3) rfl))) (mvT hZ (hw _ (List.mem_of_getElem? (i := 4) rfl))) (notFace_of_selects (args := #[]) (mvT hZ (hw _ (List.mem_of_getElem? (i := 6) rfl)))) (mvT hZ (hw _ (List.mem_of_getElem? (i := 6) rfl))) (mvT hZ (hw _ (List.mem_of_getElem? (i := 5) rfl))) (by decide) (backOf (W := 0) (rm1 l Z a0 hw [] r_XOR (0 : Int32) (0 : Int32) (1 : Int32) (1 : Int32) (0 : Int32) h0 n0 Z0 F_XOR_0 F_XOR_1 F_XOR_2) hZ (hw _ (List.mem_of_getElem? (i := 7) rfl)) (hw _ (List.mem_of_getElem? (i := 1) rfl)) (by decide) (by decide)) q13a q13c (g := (mkF m 138 #[.val (.int p1), .val (.int p2), .val (.int (p1 &&& (3 : Int32))), .val (.int (0 : Int32)), .val (.int (0 : Int32)), .val (.ref r_XOR), .val (.int (0 : Int32))] [(.int (0 : Int32)), (.int (0 : Int32)), (.ref r_XOR)])) rfl (by rw [hml]; rfl) (Steps.refl _) (argsL := [(.int (0 : Int32)), (.int (0 : Int32))]) (rest := []) (lenOf pd_1 rfl) rfl (by show 2 * 0 + _ ≤ _; exact Nat.le_of_eq rfl) (hb hby at_138) (fun _ _ => ⟨rfl, e12, (by decide : 0 + 0 ≤ _), (by decide : 0 + 0 ≤ _)⟩)
            dsimp only [Pt.U, Pt.locs, Pt.cells, Pt.slots] at X13 l13 y13 z13 st13 hQ13
            subst l13 y13 z13
            obtain ⟨rfl, N13q, e13⟩ := hQ13
            have N13 := Fr.app N0 N13q
            obtain ⟨fs, hr, hrun, hended, hW, hsame⟩ := X13.leave (v := some (.int (if (F1 (0 : Int32) (0 : Int32) (1 : Int32) (1 : Int32) (0 : Int32)) = (0 : Int32) then (1 : Int32) else (0 : Int32)))) (fun h => by rw [Bd.returns] at h; cases h)
            refine ⟨_, _, pre0 _ ?_, hrun, hended, _, _, rfl, ?_, ⟨_, rfl⟩, hW, hsame.mono (by decide) (by decide)⟩
            · show Steps p.tables e below (s₁.setTop (mkF m 0 #[.val (.int p1), .val (.int p2), .unset, .unset, .unset, .unset, .unset] [])) _
              refine XS.iloadN X0.here hx rfl (hb hby at_0) rfl ?_
              show Steps p.tables e below (s₁.setTop (mkF m 1 #[.val (.int p1), .val (.int p2), .unset, .unset, .unset, .unset, .unset] [(.int p1)])) _
              refine XS.iconst X0.here hx rfl (hb hby at_1) ?_
              show Steps p.tables e below (s₁.setTop (mkF m 2 #[.val (.int p1), .val (.int p2), .unset, .unset, .unset, .unset, .unset] [(.int (3 : Int32)), (.int p1)])) _
              refine XS.iand X0.here hx rfl (hb hby at_2) rfl ?_
              show Steps p.tables e below (s₁.setTop (mkF m 3 #[.val (.int p1), .val (.int p2), .unset, .unset, .unset, .unset, .unset] [(.int (p1 &&& (3 : Int32)))])) _
              refine XS.istoreN X0.here hx rfl (hb hby at_3) rfl (l' := #[.val (.int p1), .val (.int p2), .val (.int (p1 &&& (3 : Int32))), .unset, .unset, .unset, .unset]) rfl ?_
              show Steps p.tables e below (s₁.setTop (mkF m 4 #[.val (.int p1), .val (.int p2), .val (.int (p1 &&& (3 : Int32))), .unset, .unset, .unset, .unset] [])) _
              refine XS.iloadN X0.here hx rfl (hb hby at_4) rfl ?_
              show Steps p.tables e below (s₁.setTop (mkF m 5 #[.val (.int p1), .val (.int p2), .val (.int (p1 &&& (3 : Int32))), .unset, .unset, .unset, .unset] [(.int p2)])) _
              refine XS.iconst X0.here hx rfl (hb hby at_5) ?_
              show Steps p.tables e below (s₁.setTop (mkF m 6 #[.val (.int p1), .val (.int p2), .val (.int (p1 &&& (3 : Int32))), .unset, .unset, .unset, .unset] [(.int (1 : Int32)), (.int p2)])) _
              refine XS.iand X0.here hx rfl (hb hby at_6) rfl ?_
              show Steps p.tables e below (s₁.setTop (mkF m 7 #[.val (.int p1), .val (.int p2), .val (.int (p1 &&& (3 : Int32))), .unset, .unset, .unset, .unset] [(.int (p2 &&& (1 : Int32)))])) _
              refine XS.ifYes X0.here hx rfl (pc0 := 7) (pc' := 14) rfl (hb hby at_7) rfl ((if0 _ _).trans (teq hc7_1).1) (by decide) (by decide) ?_
              show Steps p.tables e below (s₁.setTop (mkF m 14 #[.val (.int p1), .val (.int p2), .val (.int (p1 &&& (3 : Int32))), .unset, .unset, .unset, .unset] [])) _
              refine XS.iconst X0.here hx rfl (hb hby at_14) ?_
              show Steps p.tables e below (s₁.setTop (mkF m 15 #[.val (.int p1), .val (.int p2), .val (.int (p1 &&& (3 : Int32))), .unset, .unset, .unset, .unset] [(.int (0 : Int32))])) _
              refine XS.istoreN X0.here hx rfl (hb hby at_15) rfl (l' := #[.val (.int p1), .val (.int p2), .val (.int (p1 &&& (3 : Int32))), .val (.int (0 : Int32)), .unset, .unset, .unset]) rfl ?_
              show Steps p.tables e below (s₁.setTop (mkF m 16 #[.val (.int p1), .val (.int p2), .val (.int (p1 &&& (3 : Int32))), .val (.int (0 : Int32)), .unset, .unset, .unset] [])) _
              refine XS.iloadN X0.here hx rfl (hb hby at_16) rfl ?_
              show Steps p.tables e below (s₁.setTop (mkF m 17 #[.val (.int p1), .val (.int p2), .val (.int (p1 &&& (3 : Int32))), .val (.int (0 : Int32)), .unset, .unset, .unset] [(.int p2)])) _
              refine XS.iconst X0.here hx rfl (hb hby at_17) ?_
              show Steps p.tables e below (s₁.setTop (mkF m 18 #[.val (.int p1), .val (.int p2), .val (.int (p1 &&& (3 : Int32))), .val (.int (0 : Int32)), .unset, .unset, .unset] [(.int (2 : Int32)), (.int p2)])) _
              refine XS.iand X0.here hx rfl (hb hby at_18) rfl ?_
              show Steps p.tables e below (s₁.setTop (mkF m 19 #[.val (.int p1), .val (.int p2), .val (.int (p1 &&& (3 : Int32))), .val (.int (0 : Int32)), .unset, .unset, .unset] [(.int (p2 &&& (2 : Int32)))])) _
              refine XS.ifYes X0.here hx rfl (pc0 := 19) (pc' := 26) rfl (hb hby at_19) rfl ((if0 _ _).trans (teq hc19_2).1) (by decide) (by decide) ?_
              show Steps p.tables e below (s₁.setTop (mkF m 26 #[.val (.int p1), .val (.int p2), .val (.int (p1 &&& (3 : Int32))), .val (.int (0 : Int32)), .unset, .unset, .unset] [])) _
              refine XS.iconst X0.here hx rfl (hb hby at_26) ?_
              show Steps p.tables e below (s₁.setTop (mkF m 27 #[.val (.int p1), .val (.int p2), .val (.int (p1 &&& (3 : Int32))), .val (.int (0 : Int32)), .unset, .unset, .unset] [(.int (0 : Int32))])) _
              refine XS.istore X0.here hx rfl (hb hby at_27) rfl (l' := #[.val (.int p1), .val (.int p2), .val (.int (p1 &&& (3 : Int32))), .val (.int (0 : Int32)), .val (.int (0 : Int32)), .unset, .unset]) rfl ?_
              show Steps p.tables e below (s₁.setTop (mkF m 29 #[.val (.int p1), .val (.int p2), .val (.int (p1 &&& (3 : Int32))), .val (.int (0 : Int32)), .val (.int (0 : Int32)), .unset, .unset] [])) _
              refine XS.iloadN X0.here hx rfl (hb hby at_29) rfl ?_
              show Steps p.tables e below (s₁.setTop (mkF m 30 #[.val (.int p1), .val (.int p2), .val (.int (p1 &&& (3 : Int32))), .val (.int (0 : Int32)), .val (.int (0 : Int32)), .unset, .unset] [(.int (p1 &&& (3 : Int32)))])) _
              refine XS.ifYes X0.here hx rfl (pc0 := 30) (pc' := 57) rfl (hb hby at_30) rfl ((if0 _ _).trans (feq hc30_3).2) (by decide) (by decide) ?_
              show Steps p.tables e below (s₁.setTop (mkF m 57 #[.val (.int p1), .val (.int p2), .val (.int (p1 &&& (3 : Int32))), .val (.int (0 : Int32)), .val (.int (0 : Int32)), .unset, .unset] [])) _
              refine XS.iloadN X0.here hx rfl (hb hby at_57) rfl ?_
              show Steps p.tables e below (s₁.setTop (mkF m 58 #[.val (.int p1), .val (.int p2), .val (.int (p1 &&& (3 : Int32))), .val (.int (0 : Int32)), .val (.int (0 : Int32)), .unset, .unset] [(.int (p1 &&& (3 : Int32)))])) _
              refine XS.iconst X0.here hx rfl (hb hby at_58) ?_
              show Steps p.tables e below (s₁.setTop (mkF m 59 #[.val (.int p1), .val (.int p2), .val (.int (p1 &&& (3 : Int32))), .val (.int (0 : Int32)), .val (.int (0 : Int32)), .unset, .unset] [(.int (1 : Int32)), (.int (p1 &&& (3 : Int32)))])) _
              refine XS.icmpYes X0.here hx rfl (pc0 := 59) (pc' := 86) rfl (hb hby at_59) rfl (feq hc59_7).2 (by decide) (by decide) ?_
              show Steps p.tables e below (s₁.setTop (mkF m 86 #[.val (.int p1), .val (.int p2), .val (.int (p1 &&& (3 : Int32))), .val (.int (0 : Int32)), .val (.int (0 : Int32)), .unset, .unset] [])) _
              refine XS.iloadN X0.here hx rfl (hb hby at_86) rfl ?_
              show Steps p.tables e below (s₁.setTop (mkF m 87 #[.val (.int p1), .val (.int p2), .val (.int (p1 &&& (3 : Int32))), .val (.int (0 : Int32)), .val (.int (0 : Int32)), .unset, .unset] [(.int (p1 &&& (3 : Int32)))])) _
              refine XS.iconst X0.here hx rfl (hb hby at_87) ?_
              show Steps p.tables e below (s₁.setTop (mkF m 88 #[.val (.int p1), .val (.int p2), .val (.int (p1 &&& (3 : Int32))), .val (.int (0 : Int32)), .val (.int (0 : Int32)), .unset, .unset] [(.int (2 : Int32)), (.int (p1 &&& (3 : Int32)))])) _
              refine XS.icmpNo X0.here hx rfl (hb hby at_88) rfl (teq hc88_11).2 ?_
              show Steps p.tables e below (s₁.setTop (mkF m 91 #[.val (.int p1), .val (.int p2), .val (.int (p1 &&& (3 : Int32))), .val (.int (0 : Int32)), .val (.int (0 : Int32)), .unset, .unset] [])) _
              refine st12 _ ?_
              show Steps p.tables e below (T12.setTop (mkF m 94 #[.val (.int p1), .val (.int p2), .val (.int (p1 &&& (3 : Int32))), .val (.int (0 : Int32)), .val (.int (0 : Int32)), .unset, .unset] [(.ref r_XOR)])) _
              refine XS.astore X12.here hx rfl (hb hby at_94) rfl rfl (l' := #[.val (.int p1), .val (.int p2), .val (.int (p1 &&& (3 : Int32))), .val (.int (0 : Int32)), .val (.int (0 : Int32)), .val (.ref r_XOR), .unset]) rfl ?_
              show Steps p.tables e below (T12.setTop (mkF m 96 #[.val (.int p1), .val (.int p2), .val (.int (p1 &&& (3 : Int32))), .val (.int (0 : Int32)), .val (.int (0 : Int32)), .val (.ref r_XOR), .unset] [])) _
              refine XS.iloadN X12.here hx rfl (hb hby at_96) rfl ?_
              show Steps p.tables e below (T12.setTop (mkF m 97 #[.val (.int p1), .val (.int p2), .val (.int (p1 &&& (3 : Int32))), .val (.int (0 : Int32)), .val (.int (0 : Int32)), .val (.ref r_XOR), .unset] [(.int (0 : Int32))])) _
              refine XS.iload X12.here hx rfl (hb hby at_97) rfl ?_
              show Steps p.tables e below (T12.setTop (mkF m 99 #[.val (.int p1), .val (.int p2), .val (.int (p1 &&& (3 : Int32))), .val (.int (0 : Int32)), .val (.int (0 : Int32)), .val (.ref r_XOR), .unset] [(.int (0 : Int32)), (.int (0 : Int32))])) _
              refine XS.icmpYes X12.here hx rfl (pc0 := 99) (pc' := 106) rfl (hb hby at_99) rfl (teq (rfl : (0 : Int32) = (0 : Int32))).1 (by decide) (by decide) ?_
              show Steps p.tables e below (T12.setTop (mkF m 106 #[.val (.int p1), .val (.int p2), .val (.int (p1 &&& (3 : Int32))), .val (.int (0 : Int32)), .val (.int (0 : Int32)), .val (.ref r_XOR), .unset] [])) _
              refine XS.iconst X12.here hx rfl (hb hby at_106) ?_
              show Steps p.tables e below (T12.setTop (mkF m 107 #[.val (.int p1), .val (.int p2), .val (.int (p1 &&& (3 : Int32))), .val (.int (0 : Int32)), .val (.int (0 : Int32)), .val (.ref r_XOR), .unset] [(.int (0 : Int32))])) _
              refine XS.istore X12.here hx rfl (hb hby at_107) rfl (l' := #[.val (.int p1), .val (.int p2), .val (.int (p1 &&& (3 : Int32))), .val (.int (0 : Int32)), .val (.int (0 : Int32)), .val (.ref r_XOR), .val (.int (0 : Int32))]) rfl ?_
              show Steps p.tables e below (T12.setTop (mkF m 109 #[.val (.int p1), .val (.int p2), .val (.int (p1 &&& (3 : Int32))), .val (.int (0 : Int32)), .val (.int (0 : Int32)), .val (.ref r_XOR), .val (.int (0 : Int32))] [])) _
              refine XS.goto X12.here hx rfl (pc0 := 109) (pc' := 133) rfl (hb hby at_109) (by decide) (by decide) ?_
              show Steps p.tables e below (T12.setTop (mkF m 133 #[.val (.int p1), .val (.int p2), .val (.int (p1 &&& (3 : Int32))), .val (.int (0 : Int32)), .val (.int (0 : Int32)), .val (.ref r_XOR), .val (.int (0 : Int32))] [])) _
              refine XS.aload X12.here hx rfl (hb hby at_133) rfl rfl ?_
              show Steps p.tables e below (T12.setTop (mkF m 135 #[.val (.int p1), .val (.int p2), .val (.int (p1 &&& (3 : Int32))), .val (.int (0 : Int32)), .val (.int (0 : Int32)), .val (.ref r_XOR), .val (.int (0 : Int32))] [(.ref r_XOR)])) _
              refine XS.iloadN X12.here hx rfl (hb hby at_135) rfl ?_
              show Steps p.tables e below (T12.setTop (mkF m 136 #[.val (.int p1), .val (.int p2), .val (.int (p1 &&& (3 : Int32))), .val (.int (0 : Int32)), .val (.int (0 : Int32)), .val (.ref r_XOR), .val (.int (0 : Int32))] [(.int (0 : Int32)), (.ref r_XOR)])) _
              refine XS.iload X12.here hx rfl (hb hby at_136) rfl ?_
              show Steps p.tables e below (T12.setTop (mkF m 138 #[.val (.int p1), .val (.int p2), .val (.int (p1 &&& (3 : Int32))), .val (.int (0 : Int32)), .val (.int (0 : Int32)), .val (.ref r_XOR), .val (.int (0 : Int32))] [(.int (0 : Int32)), (.int (0 : Int32)), (.ref r_XOR)])) _
              refine st13.trans ?_
              show Steps p.tables e below (T13.setTop (mkF m 141 #[.val (.int p1), .val (.int p2), .val (.int (p1 &&& (3 : Int32))), .val (.int (0 : Int32)), .val (.int (0 : Int32)), .val (.ref r_XOR), .val (.int (0 : Int32))] [(.int (F1 (0 : Int32) (0 : Int32) (1 : Int32) (1 : Int32) (0 : Int32)))])) _
              refine XS.iload X13.here hx rfl (hb hby at_141) rfl ?_
              show Steps p.tables e below (T13.setTop (mkF m 143 #[.val (.int p1), .val (.int p2), .val (.int (p1 &&& (3 : Int32))), .val (.int (0 : Int32)), .val (.int (0 : Int32)), .val (.ref r_XOR), .val (.int (0 : Int32))] [(.int (0 : Int32)), (.int (F1 (0 : Int32) (0 : Int32) (1 : Int32) (1 : Int32) (0 : Int32)))])) _
              by_cases hc143_14 : (F1 (0 : Int32) (0 : Int32) (1 : Int32) (1 : Int32) (0 : Int32)) = (0 : Int32)
              · refine XS.icmpNo X13.here hx rfl (hb hby at_143) rfl (teq hc143_14).2 ?_
                show Steps p.tables e below (T13.setTop (mkF m 146 #[.val (.int p1), .val (.int p2), .val (.int (p1 &&& (3 : Int32))), .val (.int (0 : Int32)), .val (.int (0 : Int32)), .val (.ref r_XOR), .val (.int (0 : Int32))] [])) _
                refine XS.iconst X13.here hx rfl (hb hby at_146) ?_
                show Steps p.tables e below (T13.setTop (mkF m 147 #[.val (.int p1), .val (.int p2), .val (.int (p1 &&& (3 : Int32))), .val (.int (0 : Int32)), .val (.int (0 : Int32)), .val (.ref r_XOR), .val (.int (0 : Int32))] [(.int (1 : Int32))])) _
                refine XS.goto X13.here hx rfl (pc0 := 147) (pc' := 151) rfl (hb hby at_147) (by decide) (by decide) ?_
                show Steps p.tables e below (T13.setTop (mkF m 151 #[.val (.int p1), .val (.int p2), .val (.int (p1 &&& (3 : Int32))), .val (.int (0 : Int32)), .val (.int (0 : Int32)), .val (.ref r_XOR), .val (.int (0 : Int32))] [(.int (1 : Int32))])) _
                rw [if_pos hc143_14] at hr
                exact retN X13 hx (t := .boolean) Bd.returns (by simp) (hb hby at_151) hr
              · refine XS.icmpYes X13.here hx rfl (pc0 := 143) (pc' := 150) rfl (hb hby at_143) rfl (feq hc143_14).2 (by decide) (by decide) ?_
                show Steps p.tables e below (T13.setTop (mkF m 150 #[.val (.int p1), .val (.int p2), .val (.int (p1 &&& (3 : Int32))), .val (.int (0 : Int32)), .val (.int (0 : Int32)), .val (.ref r_XOR), .val (.int (0 : Int32))] [])) _
                refine XS.iconst X13.here hx rfl (hb hby at_150) ?_
                show Steps p.tables e below (T13.setTop (mkF m 151 #[.val (.int p1), .val (.int p2), .val (.int (p1 &&& (3 : Int32))), .val (.int (0 : Int32)), .val (.int (0 : Int32)), .val (.ref r_XOR), .val (.int (0 : Int32))] [(.int (0 : Int32))])) _
                rw [if_neg hc143_14] at hr
                exact retN X13 hx (t := .boolean) Bd.returns (by simp) (hb hby at_151) hr
            · show Q0 Z p1 p2 r_AND r_OR r_XOR r_AND_NOT h0 n0 _ T13.heap _
              rw [e13]
              exact ⟨congrArg (fun z => some (Value.int z)) ((show F0 p1 p2 = (if (F1 (0 : Int32) (0 : Int32) (1 : Int32) (1 : Int32) (0 : Int32)) = (0 : Int32) then (1 : Int32) else (0 : Int32)) by rw [F0, if_pos hc7_1, if_pos hc19_2, if_neg hc30_3, if_neg hc59_7, if_pos hc88_11]).symm.trans (own_law p1 p2)), N13⟩
          · obtain ⟨T15, X15, e15, st15⟩ := getS2 X0 hx hZ hown (host := "") (Or.inl (hw _ (List.mem_of_getElem? (i := 16) rfl))) Via.refl e0 S_AND_NOT (g := (mkF m 112 #[.val (.int p1), .val (.int p2), .val (.int (p1 &&& (3 : Int32))), .val (.int (0 : Int32)), .val (.int (0 : Int32)), .unset, .unset] [])) rfl (hb hby at_112)
            obtain ⟨cq16, kq16, q16a, q16b, q16c⟩ := isOf hZ e15 E_AND_NOT
            obtain ⟨_, _, ⟨T16, L16, k16, n16⟩, -, X16, ⟨Lc16, hQ16, l16, y16, z16⟩, st16⟩ := X15.virtualBack hx (y := (⟨"com/example/bitweave/bitweave/SetOperation", "keeps", "(ZZ)Z"⟩ : MethodName)) (z := (⟨"com/example/bitweave/bitweave/SetOperation", "keeps", "(ZZ)Z"⟩ : MethodName)) hown (mvT hZ (hw _ (List.mem_of_getElem? (i := 3) rfl))) (mvT hZ (hw _ (List.mem_of_getElem? (i := 4) rfl))) (notFace_of_selects (args := #[]) (mvT hZ (hw _ (List.mem_of_getElem? (i := 6) rfl)))) (mvT hZ (hw _ (List.mem_of_getElem? (i := 6) rfl))) (mvT hZ (hw _ (List.mem_of_getElem? (i := 5) rfl))) (by decide) (backOf (W := 0) (rm1 l Z a0 hw [] r_AND_NOT (0 : Int32) (0 : Int32) (1 : Int32) (0 : Int32) (0 : Int32) h0 n0 Z0 F_AND_NOT_0 F_AND_NOT_1 F_AND_NOT_2) hZ (hw _ (List.mem_of_getElem? (i := 7) rfl)) (hw _ (List.mem_of_getElem? (i := 1) rfl)) (by decide) (by decide)) q16a q16c (g := (mkF m 138 #[.val (.int p1), .val (.int p2), .val (.int (p1 &&& (3 : Int32))), .val (.int (0 : Int32)), .val (.int (0 : Int32)), .val (.ref r_AND_NOT), .val (.int (0 : Int32))] [(.int (0 : Int32)), (.int (0 : Int32)), (.ref r_AND_NOT)])) rfl (by rw [hml]; rfl) (Steps.refl _) (argsL := [(.int (0 : Int32)), (.int (0 : Int32))]) (rest := []) (lenOf pd_1 rfl) rfl (by show 2 * 0 + _ ≤ _; exact Nat.le_of_eq rfl) (hb hby at_138) (fun _ _ => ⟨rfl, e15, (by decide : 0 + 0 ≤ _), (by decide : 0 + 0 ≤ _)⟩)
            dsimp only [Pt.U, Pt.locs, Pt.cells, Pt.slots] at X16 l16 y16 z16 st16 hQ16
            subst l16 y16 z16
            obtain ⟨rfl, N16q, e16⟩ := hQ16
            have N16 := Fr.app N0 N16q
            obtain ⟨fs, hr, hrun, hended, hW, hsame⟩ := X16.leave (v := some (.int (if (F1 (0 : Int32) (0 : Int32) (1 : Int32) (0 : Int32) (0 : Int32)) = (0 : Int32) then (1 : Int32) else (0 : Int32)))) (fun h => by rw [Bd.returns] at h; cases h)
            refine ⟨_, _, pre0 _ ?_, hrun, hended, _, _, rfl, ?_, ⟨_, rfl⟩, hW, hsame.mono (by decide) (by decide)⟩
            · show Steps p.tables e below (s₁.setTop (mkF m 0 #[.val (.int p1), .val (.int p2), .unset, .unset, .unset, .unset, .unset] [])) _
              refine XS.iloadN X0.here hx rfl (hb hby at_0) rfl ?_
              show Steps p.tables e below (s₁.setTop (mkF m 1 #[.val (.int p1), .val (.int p2), .unset, .unset, .unset, .unset, .unset] [(.int p1)])) _
              refine XS.iconst X0.here hx rfl (hb hby at_1) ?_
              show Steps p.tables e below (s₁.setTop (mkF m 2 #[.val (.int p1), .val (.int p2), .unset, .unset, .unset, .unset, .unset] [(.int (3 : Int32)), (.int p1)])) _
              refine XS.iand X0.here hx rfl (hb hby at_2) rfl ?_
              show Steps p.tables e below (s₁.setTop (mkF m 3 #[.val (.int p1), .val (.int p2), .unset, .unset, .unset, .unset, .unset] [(.int (p1 &&& (3 : Int32)))])) _
              refine XS.istoreN X0.here hx rfl (hb hby at_3) rfl (l' := #[.val (.int p1), .val (.int p2), .val (.int (p1 &&& (3 : Int32))), .unset, .unset, .unset, .unset]) rfl ?_
              show Steps p.tables e below (s₁.setTop (mkF m 4 #[.val (.int p1), .val (.int p2), .val (.int (p1 &&& (3 : Int32))), .unset, .unset, .unset, .unset] [])) _
              refine XS.iloadN X0.here hx rfl (hb hby at_4) rfl ?_
              show Steps p.tables e below (s₁.setTop (mkF m 5 #[.val (.int p1), .val (.int p2), .val (.int (p1 &&& (3 : Int32))), .unset, .unset, .unset, .unset] [(.int p2)])) _
              refine XS.iconst X0.here hx rfl (hb hby at_5) ?_
              show Steps p.tables e below (s₁.setTop (mkF m 6 #[.val (.int p1), .val (.int p2), .val (.int (p1 &&& (3 : Int32))), .unset, .unset, .unset, .unset] [(.int (1 : Int32)), (.int p2)])) _
              refine XS.iand X0.here hx rfl (hb hby at_6) rfl ?_
              show Steps p.tables e below (s₁.setTop (mkF m 7 #[.val (.int p1), .val (.int p2), .val (.int (p1 &&& (3 : Int32))), .unset, .unset, .unset, .unset] [(.int (p2 &&& (1 : Int32)))])) _
              refine XS.ifYes X0.here hx rfl (pc0 := 7) (pc' := 14) rfl (hb hby at_7) rfl ((if0 _ _).trans (teq hc7_1).1) (by decide) (by decide) ?_
              show Steps p.tables e below (s₁.setTop (mkF m 14 #[.val (.int p1), .val (.int p2), .val (.int (p1 &&& (3 : Int32))), .unset, .unset, .unset, .unset] [])) _
              refine XS.iconst X0.here hx rfl (hb hby at_14) ?_
              show Steps p.tables e below (s₁.setTop (mkF m 15 #[.val (.int p1), .val (.int p2), .val (.int (p1 &&& (3 : Int32))), .unset, .unset, .unset, .unset] [(.int (0 : Int32))])) _
              refine XS.istoreN X0.here hx rfl (hb hby at_15) rfl (l' := #[.val (.int p1), .val (.int p2), .val (.int (p1 &&& (3 : Int32))), .val (.int (0 : Int32)), .unset, .unset, .unset]) rfl ?_
              show Steps p.tables e below (s₁.setTop (mkF m 16 #[.val (.int p1), .val (.int p2), .val (.int (p1 &&& (3 : Int32))), .val (.int (0 : Int32)), .unset, .unset, .unset] [])) _
              refine XS.iloadN X0.here hx rfl (hb hby at_16) rfl ?_
              show Steps p.tables e below (s₁.setTop (mkF m 17 #[.val (.int p1), .val (.int p2), .val (.int (p1 &&& (3 : Int32))), .val (.int (0 : Int32)), .unset, .unset, .unset] [(.int p2)])) _
              refine XS.iconst X0.here hx rfl (hb hby at_17) ?_
              show Steps p.tables e below (s₁.setTop (mkF m 18 #[.val (.int p1), .val (.int p2), .val (.int (p1 &&& (3 : Int32))), .val (.int (0 : Int32)), .unset, .unset, .unset] [(.int (2 : Int32)), (.int p2)])) _
              refine XS.iand X0.here hx rfl (hb hby at_18) rfl ?_
              show Steps p.tables e below (s₁.setTop (mkF m 19 #[.val (.int p1), .val (.int p2), .val (.int (p1 &&& (3 : Int32))), .val (.int (0 : Int32)), .unset, .unset, .unset] [(.int (p2 &&& (2 : Int32)))])) _
              refine XS.ifYes X0.here hx rfl (pc0 := 19) (pc' := 26) rfl (hb hby at_19) rfl ((if0 _ _).trans (teq hc19_2).1) (by decide) (by decide) ?_
              show Steps p.tables e below (s₁.setTop (mkF m 26 #[.val (.int p1), .val (.int p2), .val (.int (p1 &&& (3 : Int32))), .val (.int (0 : Int32)), .unset, .unset, .unset] [])) _
              refine XS.iconst X0.here hx rfl (hb hby at_26) ?_
              show Steps p.tables e below (s₁.setTop (mkF m 27 #[.val (.int p1), .val (.int p2), .val (.int (p1 &&& (3 : Int32))), .val (.int (0 : Int32)), .unset, .unset, .unset] [(.int (0 : Int32))])) _
              refine XS.istore X0.here hx rfl (hb hby at_27) rfl (l' := #[.val (.int p1), .val (.int p2), .val (.int (p1 &&& (3 : Int32))), .val (.int (0 : Int32)), .val (.int (0 : Int32)), .unset, .unset]) rfl ?_
              show Steps p.tables e below (s₁.setTop (mkF m 29 #[.val (.int p1), .val (.int p2), .val (.int (p1 &&& (3 : Int32))), .val (.int (0 : Int32)), .val (.int (0 : Int32)), .unset, .unset] [])) _
              refine XS.iloadN X0.here hx rfl (hb hby at_29) rfl ?_
              show Steps p.tables e below (s₁.setTop (mkF m 30 #[.val (.int p1), .val (.int p2), .val (.int (p1 &&& (3 : Int32))), .val (.int (0 : Int32)), .val (.int (0 : Int32)), .unset, .unset] [(.int (p1 &&& (3 : Int32)))])) _
              refine XS.ifYes X0.here hx rfl (pc0 := 30) (pc' := 57) rfl (hb hby at_30) rfl ((if0 _ _).trans (feq hc30_3).2) (by decide) (by decide) ?_
              show Steps p.tables e below (s₁.setTop (mkF m 57 #[.val (.int p1), .val (.int p2), .val (.int (p1 &&& (3 : Int32))), .val (.int (0 : Int32)), .val (.int (0 : Int32)), .unset, .unset] [])) _
              refine XS.iloadN X0.here hx rfl (hb hby at_57) rfl ?_
              show Steps p.tables e below (s₁.setTop (mkF m 58 #[.val (.int p1), .val (.int p2), .val (.int (p1 &&& (3 : Int32))), .val (.int (0 : Int32)), .val (.int (0 : Int32)), .unset, .unset] [(.int (p1 &&& (3 : Int32)))])) _
              refine XS.iconst X0.here hx rfl (hb hby at_58) ?_
              show Steps p.tables e below (s₁.setTop (mkF m 59 #[.val (.int p1), .val (.int p2), .val (.int (p1 &&& (3 : Int32))), .val (.int (0 : Int32)), .val (.int (0 : Int32)), .unset, .unset] [(.int (1 : Int32)), (.int (p1 &&& (3 : Int32)))])) _
              refine XS.icmpYes X0.here hx rfl (pc0 := 59) (pc' := 86) rfl (hb hby at_59) rfl (feq hc59_7).2 (by decide) (by decide) ?_
              show Steps p.tables e below (s₁.setTop (mkF m 86 #[.val (.int p1), .val (.int p2), .val (.int (p1 &&& (3 : Int32))), .val (.int (0 : Int32)), .val (.int (0 : Int32)), .unset, .unset] [])) _
              refine XS.iloadN X0.here hx rfl (hb hby at_86) rfl ?_
              show Steps p.tables e below (s₁.setTop (mkF m 87 #[.val (.int p1), .val (.int p2), .val (.int (p1 &&& (3 : Int32))), .val (.int (0 : Int32)), .val (.int (0 : Int32)), .unset, .unset] [(.int (p1 &&& (3 : Int32)))])) _
              refine XS.iconst X0.here hx rfl (hb hby at_87) ?_
              show Steps p.tables e below (s₁.setTop (mkF m 88 #[.val (.int p1), .val (.int p2), .val (.int (p1 &&& (3 : Int32))), .val (.int (0 : Int32)), .val (.int (0 : Int32)), .unset, .unset] [(.int (2 : Int32)), (.int (p1 &&& (3 : Int32)))])) _
              refine XS.icmpYes X0.here hx rfl (pc0 := 88) (pc' := 112) rfl (hb hby at_88) rfl (feq hc88_11).2 (by decide) (by decide) ?_
              show Steps p.tables e below (s₁.setTop (mkF m 112 #[.val (.int p1), .val (.int p2), .val (.int (p1 &&& (3 : Int32))), .val (.int (0 : Int32)), .val (.int (0 : Int32)), .unset, .unset] [])) _
              refine st15 _ ?_
              show Steps p.tables e below (T15.setTop (mkF m 115 #[.val (.int p1), .val (.int p2), .val (.int (p1 &&& (3 : Int32))), .val (.int (0 : Int32)), .val (.int (0 : Int32)), .unset, .unset] [(.ref r_AND_NOT)])) _
              refine XS.astore X15.here hx rfl (hb hby at_115) rfl rfl (l' := #[.val (.int p1), .val (.int p2), .val (.int (p1 &&& (3 : Int32))), .val (.int (0 : Int32)), .val (.int (0 : Int32)), .val (.ref r_AND_NOT), .unset]) rfl ?_
              show Steps p.tables e below (T15.setTop (mkF m 117 #[.val (.int p1), .val (.int p2), .val (.int (p1 &&& (3 : Int32))), .val (.int (0 : Int32)), .val (.int (0 : Int32)), .val (.ref r_AND_NOT), .unset] [])) _
              refine XS.iloadN X15.here hx rfl (hb hby at_117) rfl ?_
              show Steps p.tables e below (T15.setTop (mkF m 118 #[.val (.int p1), .val (.int p2), .val (.int (p1 &&& (3 : Int32))), .val (.int (0 : Int32)), .val (.int (0 : Int32)), .val (.ref r_AND_NOT), .unset] [(.int (0 : Int32))])) _
              refine XS.ifYes X15.here hx rfl (pc0 := 118) (pc' := 130) rfl (hb hby at_118) rfl ((if0 _ _).trans (teq (rfl : (0 : Int32) = (0 : Int32))).1) (by decide) (by decide) ?_
              show Steps p.tables e below (T15.setTop (mkF m 130 #[.val (.int p1), .val (.int p2), .val (.int (p1 &&& (3 : Int32))), .val (.int (0 : Int32)), .val (.int (0 : Int32)), .val (.ref r_AND_NOT), .unset] [])) _
              refine XS.iconst X15.here hx rfl (hb hby at_130) ?_
              show Steps p.tables e below (T15.setTop (mkF m 131 #[.val (.int p1), .val (.int p2), .val (.int (p1 &&& (3 : Int32))), .val (.int (0 : Int32)), .val (.int (0 : Int32)), .val (.ref r_AND_NOT), .unset] [(.int (0 : Int32))])) _
              refine XS.istore X15.here hx rfl (hb hby at_131) rfl (l' := #[.val (.int p1), .val (.int p2), .val (.int (p1 &&& (3 : Int32))), .val (.int (0 : Int32)), .val (.int (0 : Int32)), .val (.ref r_AND_NOT), .val (.int (0 : Int32))]) rfl ?_
              show Steps p.tables e below (T15.setTop (mkF m 133 #[.val (.int p1), .val (.int p2), .val (.int (p1 &&& (3 : Int32))), .val (.int (0 : Int32)), .val (.int (0 : Int32)), .val (.ref r_AND_NOT), .val (.int (0 : Int32))] [])) _
              refine XS.aload X15.here hx rfl (hb hby at_133) rfl rfl ?_
              show Steps p.tables e below (T15.setTop (mkF m 135 #[.val (.int p1), .val (.int p2), .val (.int (p1 &&& (3 : Int32))), .val (.int (0 : Int32)), .val (.int (0 : Int32)), .val (.ref r_AND_NOT), .val (.int (0 : Int32))] [(.ref r_AND_NOT)])) _
              refine XS.iloadN X15.here hx rfl (hb hby at_135) rfl ?_
              show Steps p.tables e below (T15.setTop (mkF m 136 #[.val (.int p1), .val (.int p2), .val (.int (p1 &&& (3 : Int32))), .val (.int (0 : Int32)), .val (.int (0 : Int32)), .val (.ref r_AND_NOT), .val (.int (0 : Int32))] [(.int (0 : Int32)), (.ref r_AND_NOT)])) _
              refine XS.iload X15.here hx rfl (hb hby at_136) rfl ?_
              show Steps p.tables e below (T15.setTop (mkF m 138 #[.val (.int p1), .val (.int p2), .val (.int (p1 &&& (3 : Int32))), .val (.int (0 : Int32)), .val (.int (0 : Int32)), .val (.ref r_AND_NOT), .val (.int (0 : Int32))] [(.int (0 : Int32)), (.int (0 : Int32)), (.ref r_AND_NOT)])) _
              refine st16.trans ?_
              show Steps p.tables e below (T16.setTop (mkF m 141 #[.val (.int p1), .val (.int p2), .val (.int (p1 &&& (3 : Int32))), .val (.int (0 : Int32)), .val (.int (0 : Int32)), .val (.ref r_AND_NOT), .val (.int (0 : Int32))] [(.int (F1 (0 : Int32) (0 : Int32) (1 : Int32) (0 : Int32) (0 : Int32)))])) _
              refine XS.iload X16.here hx rfl (hb hby at_141) rfl ?_
              show Steps p.tables e below (T16.setTop (mkF m 143 #[.val (.int p1), .val (.int p2), .val (.int (p1 &&& (3 : Int32))), .val (.int (0 : Int32)), .val (.int (0 : Int32)), .val (.ref r_AND_NOT), .val (.int (0 : Int32))] [(.int (0 : Int32)), (.int (F1 (0 : Int32) (0 : Int32) (1 : Int32) (0 : Int32) (0 : Int32)))])) _
              by_cases hc143_17 : (F1 (0 : Int32) (0 : Int32) (1 : Int32) (0 : Int32) (0 : Int32)) = (0 : Int32)
              · refine XS.icmpNo X16.here hx rfl (hb hby at_143) rfl (teq hc143_17).2 ?_
                show Steps p.tables e below (T16.setTop (mkF m 146 #[.val (.int p1), .val (.int p2), .val (.int (p1 &&& (3 : Int32))), .val (.int (0 : Int32)), .val (.int (0 : Int32)), .val (.ref r_AND_NOT), .val (.int (0 : Int32))] [])) _
                refine XS.iconst X16.here hx rfl (hb hby at_146) ?_
                show Steps p.tables e below (T16.setTop (mkF m 147 #[.val (.int p1), .val (.int p2), .val (.int (p1 &&& (3 : Int32))), .val (.int (0 : Int32)), .val (.int (0 : Int32)), .val (.ref r_AND_NOT), .val (.int (0 : Int32))] [(.int (1 : Int32))])) _
                refine XS.goto X16.here hx rfl (pc0 := 147) (pc' := 151) rfl (hb hby at_147) (by decide) (by decide) ?_
                show Steps p.tables e below (T16.setTop (mkF m 151 #[.val (.int p1), .val (.int p2), .val (.int (p1 &&& (3 : Int32))), .val (.int (0 : Int32)), .val (.int (0 : Int32)), .val (.ref r_AND_NOT), .val (.int (0 : Int32))] [(.int (1 : Int32))])) _
                rw [if_pos hc143_17] at hr
                exact retN X16 hx (t := .boolean) Bd.returns (by simp) (hb hby at_151) hr
              · refine XS.icmpYes X16.here hx rfl (pc0 := 143) (pc' := 150) rfl (hb hby at_143) rfl (feq hc143_17).2 (by decide) (by decide) ?_
                show Steps p.tables e below (T16.setTop (mkF m 150 #[.val (.int p1), .val (.int p2), .val (.int (p1 &&& (3 : Int32))), .val (.int (0 : Int32)), .val (.int (0 : Int32)), .val (.ref r_AND_NOT), .val (.int (0 : Int32))] [])) _
                refine XS.iconst X16.here hx rfl (hb hby at_150) ?_
                show Steps p.tables e below (T16.setTop (mkF m 151 #[.val (.int p1), .val (.int p2), .val (.int (p1 &&& (3 : Int32))), .val (.int (0 : Int32)), .val (.int (0 : Int32)), .val (.ref r_AND_NOT), .val (.int (0 : Int32))] [(.int (0 : Int32))])) _
                rw [if_neg hc143_17] at hr
                exact retN X16 hx (t := .boolean) Bd.returns (by simp) (hb hby at_151) hr
            · show Q0 Z p1 p2 r_AND r_OR r_XOR r_AND_NOT h0 n0 _ T16.heap _
              rw [e16]
              exact ⟨congrArg (fun z => some (Value.int z)) ((show F0 p1 p2 = (if (F1 (0 : Int32) (0 : Int32) (1 : Int32) (0 : Int32) (0 : Int32)) = (0 : Int32) then (1 : Int32) else (0 : Int32)) by rw [F0, if_pos hc7_1, if_pos hc19_2, if_neg hc30_3, if_neg hc59_7, if_neg hc88_11]).symm.trans (own_law p1 p2)), N16⟩
    · by_cases hc30_18 : (p1 &&& (3 : Int32)) = (0 : Int32)
      · obtain ⟨T19, X19, e19, st19⟩ := getS2 X0 hx hZ hown (host := "") (Or.inl (hw _ (List.mem_of_getElem? (i := 0) rfl))) Via.refl e0 S_AND (g := (mkF m 33 #[.val (.int p1), .val (.int p2), .val (.int (p1 &&& (3 : Int32))), .val (.int (0 : Int32)), .val (.int (1 : Int32)), .unset, .unset] [])) rfl (hb hby at_33)
        obtain ⟨cq20, kq20, q20a, q20b, q20c⟩ := isOf hZ e19 E_AND
        obtain ⟨_, _, ⟨T20, L20, k20, n20⟩, -, X20, ⟨Lc20, hQ20, l20, y20, z20⟩, st20⟩ := X19.virtualBack hx (y := (⟨"com/example/bitweave/bitweave/SetOperation", "keeps", "(ZZ)Z"⟩ : MethodName)) (z := (⟨"com/example/bitweave/bitweave/SetOperation", "keeps", "(ZZ)Z"⟩ : MethodName)) hown (mvT hZ (hw _ (List.mem_of_getElem? (i := 3) rfl))) (mvT hZ (hw _ (List.mem_of_getElem? (i := 4) rfl))) (notFace_of_selects (args := #[]) (mvT hZ (hw _ (List.mem_of_getElem? (i := 6) rfl)))) (mvT hZ (hw _ (List.mem_of_getElem? (i := 6) rfl))) (mvT hZ (hw _ (List.mem_of_getElem? (i := 5) rfl))) (by decide) (backOf (W := 0) (rm1 l Z a0 hw [] r_AND (0 : Int32) (1 : Int32) (0 : Int32) (0 : Int32) (1 : Int32) h0 n0 Z0 F_AND_0 F_AND_1 F_AND_2) hZ (hw _ (List.mem_of_getElem? (i := 7) rfl)) (hw _ (List.mem_of_getElem? (i := 1) rfl)) (by decide) (by decide)) q20a q20c (g := (mkF m 138 #[.val (.int p1), .val (.int p2), .val (.int (p1 &&& (3 : Int32))), .val (.int (0 : Int32)), .val (.int (1 : Int32)), .val (.ref r_AND), .val (.int (0 : Int32))] [(.int (1 : Int32)), (.int (0 : Int32)), (.ref r_AND)])) rfl (by rw [hml]; rfl) (Steps.refl _) (argsL := [(.int (0 : Int32)), (.int (1 : Int32))]) (rest := []) (lenOf pd_1 rfl) rfl (by show 2 * 0 + _ ≤ _; exact Nat.le_of_eq rfl) (hb hby at_138) (fun _ _ => ⟨rfl, e19, (by decide : 0 + 0 ≤ _), (by decide : 0 + 0 ≤ _)⟩)
        dsimp only [Pt.U, Pt.locs, Pt.cells, Pt.slots] at X20 l20 y20 z20 st20 hQ20
        subst l20 y20 z20
        obtain ⟨rfl, N20q, e20⟩ := hQ20
        have N20 := Fr.app N0 N20q
        obtain ⟨fs, hr, hrun, hended, hW, hsame⟩ := X20.leave (v := some (.int (if (F1 (0 : Int32) (1 : Int32) (0 : Int32) (0 : Int32) (1 : Int32)) = (0 : Int32) then (1 : Int32) else (0 : Int32)))) (fun h => by rw [Bd.returns] at h; cases h)
        refine ⟨_, _, pre0 _ ?_, hrun, hended, _, _, rfl, ?_, ⟨_, rfl⟩, hW, hsame.mono (by decide) (by decide)⟩
        · show Steps p.tables e below (s₁.setTop (mkF m 0 #[.val (.int p1), .val (.int p2), .unset, .unset, .unset, .unset, .unset] [])) _
          refine XS.iloadN X0.here hx rfl (hb hby at_0) rfl ?_
          show Steps p.tables e below (s₁.setTop (mkF m 1 #[.val (.int p1), .val (.int p2), .unset, .unset, .unset, .unset, .unset] [(.int p1)])) _
          refine XS.iconst X0.here hx rfl (hb hby at_1) ?_
          show Steps p.tables e below (s₁.setTop (mkF m 2 #[.val (.int p1), .val (.int p2), .unset, .unset, .unset, .unset, .unset] [(.int (3 : Int32)), (.int p1)])) _
          refine XS.iand X0.here hx rfl (hb hby at_2) rfl ?_
          show Steps p.tables e below (s₁.setTop (mkF m 3 #[.val (.int p1), .val (.int p2), .unset, .unset, .unset, .unset, .unset] [(.int (p1 &&& (3 : Int32)))])) _
          refine XS.istoreN X0.here hx rfl (hb hby at_3) rfl (l' := #[.val (.int p1), .val (.int p2), .val (.int (p1 &&& (3 : Int32))), .unset, .unset, .unset, .unset]) rfl ?_
          show Steps p.tables e below (s₁.setTop (mkF m 4 #[.val (.int p1), .val (.int p2), .val (.int (p1 &&& (3 : Int32))), .unset, .unset, .unset, .unset] [])) _
          refine XS.iloadN X0.here hx rfl (hb hby at_4) rfl ?_
          show Steps p.tables e below (s₁.setTop (mkF m 5 #[.val (.int p1), .val (.int p2), .val (.int (p1 &&& (3 : Int32))), .unset, .unset, .unset, .unset] [(.int p2)])) _
          refine XS.iconst X0.here hx rfl (hb hby at_5) ?_
          show Steps p.tables e below (s₁.setTop (mkF m 6 #[.val (.int p1), .val (.int p2), .val (.int (p1 &&& (3 : Int32))), .unset, .unset, .unset, .unset] [(.int (1 : Int32)), (.int p2)])) _
          refine XS.iand X0.here hx rfl (hb hby at_6) rfl ?_
          show Steps p.tables e below (s₁.setTop (mkF m 7 #[.val (.int p1), .val (.int p2), .val (.int (p1 &&& (3 : Int32))), .unset, .unset, .unset, .unset] [(.int (p2 &&& (1 : Int32)))])) _
          refine XS.ifYes X0.here hx rfl (pc0 := 7) (pc' := 14) rfl (hb hby at_7) rfl ((if0 _ _).trans (teq hc7_1).1) (by decide) (by decide) ?_
          show Steps p.tables e below (s₁.setTop (mkF m 14 #[.val (.int p1), .val (.int p2), .val (.int (p1 &&& (3 : Int32))), .unset, .unset, .unset, .unset] [])) _
          refine XS.iconst X0.here hx rfl (hb hby at_14) ?_
          show Steps p.tables e below (s₁.setTop (mkF m 15 #[.val (.int p1), .val (.int p2), .val (.int (p1 &&& (3 : Int32))), .unset, .unset, .unset, .unset] [(.int (0 : Int32))])) _
          refine XS.istoreN X0.here hx rfl (hb hby at_15) rfl (l' := #[.val (.int p1), .val (.int p2), .val (.int (p1 &&& (3 : Int32))), .val (.int (0 : Int32)), .unset, .unset, .unset]) rfl ?_
          show Steps p.tables e below (s₁.setTop (mkF m 16 #[.val (.int p1), .val (.int p2), .val (.int (p1 &&& (3 : Int32))), .val (.int (0 : Int32)), .unset, .unset, .unset] [])) _
          refine XS.iloadN X0.here hx rfl (hb hby at_16) rfl ?_
          show Steps p.tables e below (s₁.setTop (mkF m 17 #[.val (.int p1), .val (.int p2), .val (.int (p1 &&& (3 : Int32))), .val (.int (0 : Int32)), .unset, .unset, .unset] [(.int p2)])) _
          refine XS.iconst X0.here hx rfl (hb hby at_17) ?_
          show Steps p.tables e below (s₁.setTop (mkF m 18 #[.val (.int p1), .val (.int p2), .val (.int (p1 &&& (3 : Int32))), .val (.int (0 : Int32)), .unset, .unset, .unset] [(.int (2 : Int32)), (.int p2)])) _
          refine XS.iand X0.here hx rfl (hb hby at_18) rfl ?_
          show Steps p.tables e below (s₁.setTop (mkF m 19 #[.val (.int p1), .val (.int p2), .val (.int (p1 &&& (3 : Int32))), .val (.int (0 : Int32)), .unset, .unset, .unset] [(.int (p2 &&& (2 : Int32)))])) _
          refine XS.ifNo X0.here hx rfl (hb hby at_19) rfl ((if0 _ _).trans (feq hc19_2).1) ?_
          show Steps p.tables e below (s₁.setTop (mkF m 22 #[.val (.int p1), .val (.int p2), .val (.int (p1 &&& (3 : Int32))), .val (.int (0 : Int32)), .unset, .unset, .unset] [])) _
          refine XS.iconst X0.here hx rfl (hb hby at_22) ?_
          show Steps p.tables e below (s₁.setTop (mkF m 23 #[.val (.int p1), .val (.int p2), .val (.int (p1 &&& (3 : Int32))), .val (.int (0 : Int32)), .unset, .unset, .unset] [(.int (1 : Int32))])) _
          refine XS.goto X0.here hx rfl (pc0 := 23) (pc' := 27) rfl (hb hby at_23) (by decide) (by decide) ?_
          show Steps p.tables e below (s₁.setTop (mkF m 27 #[.val (.int p1), .val (.int p2), .val (.int (p1 &&& (3 : Int32))), .val (.int (0 : Int32)), .unset, .unset, .unset] [(.int (1 : Int32))])) _
          refine XS.istore X0.here hx rfl (hb hby at_27) rfl (l' := #[.val (.int p1), .val (.int p2), .val (.int (p1 &&& (3 : Int32))), .val (.int (0 : Int32)), .val (.int (1 : Int32)), .unset, .unset]) rfl ?_
          show Steps p.tables e below (s₁.setTop (mkF m 29 #[.val (.int p1), .val (.int p2), .val (.int (p1 &&& (3 : Int32))), .val (.int (0 : Int32)), .val (.int (1 : Int32)), .unset, .unset] [])) _
          refine XS.iloadN X0.here hx rfl (hb hby at_29) rfl ?_
          show Steps p.tables e below (s₁.setTop (mkF m 30 #[.val (.int p1), .val (.int p2), .val (.int (p1 &&& (3 : Int32))), .val (.int (0 : Int32)), .val (.int (1 : Int32)), .unset, .unset] [(.int (p1 &&& (3 : Int32)))])) _
          refine XS.ifNo X0.here hx rfl (hb hby at_30) rfl ((if0 _ _).trans (teq hc30_18).2) ?_
          show Steps p.tables e below (s₁.setTop (mkF m 33 #[.val (.int p1), .val (.int p2), .val (.int (p1 &&& (3 : Int32))), .val (.int (0 : Int32)), .val (.int (1 : Int32)), .unset, .unset] [])) _
          refine st19 _ ?_
          show Steps p.tables e below (T19.setTop (mkF m 36 #[.val (.int p1), .val (.int p2), .val (.int (p1 &&& (3 : Int32))), .val (.int (0 : Int32)), .val (.int (1 : Int32)), .unset, .unset] [(.ref r_AND)])) _
          refine XS.astore X19.here hx rfl (hb hby at_36) rfl rfl (l' := #[.val (.int p1), .val (.int p2), .val (.int (p1 &&& (3 : Int32))), .val (.int (0 : Int32)), .val (.int (1 : Int32)), .val (.ref r_AND), .unset]) rfl ?_
          show Steps p.tables e below (T19.setTop (mkF m 38 #[.val (.int p1), .val (.int p2), .val (.int (p1 &&& (3 : Int32))), .val (.int (0 : Int32)), .val (.int (1 : Int32)), .val (.ref r_AND), .unset] [])) _
          refine XS.iloadN X19.here hx rfl (hb hby at_38) rfl ?_
          show Steps p.tables e below (T19.setTop (mkF m 39 #[.val (.int p1), .val (.int p2), .val (.int (p1 &&& (3 : Int32))), .val (.int (0 : Int32)), .val (.int (1 : Int32)), .val (.ref r_AND), .unset] [(.int (0 : Int32))])) _
          refine XS.ifYes X19.here hx rfl (pc0 := 39) (pc' := 51) rfl (hb hby at_39) rfl ((if0 _ _).trans (teq (rfl : (0 : Int32) = (0 : Int32))).1) (by decide) (by decide) ?_
          show Steps p.tables e below (T19.setTop (mkF m 51 #[.val (.int p1), .val (.int p2), .val (.int (p1 &&& (3 : Int32))), .val (.int (0 : Int32)), .val (.int (1 : Int32)), .val (.ref r_AND), .unset] [])) _
          refine XS.iconst X19.here hx rfl (hb hby at_51) ?_
          show Steps p.tables e below (T19.setTop (mkF m 52 #[.val (.int p1), .val (.int p2), .val (.int (p1 &&& (3 : Int32))), .val (.int (0 : Int32)), .val (.int (1 : Int32)), .val (.ref r_AND), .unset] [(.int (0 : Int32))])) _
          refine XS.istore X19.here hx rfl (hb hby at_52) rfl (l' := #[.val (.int p1), .val (.int p2), .val (.int (p1 &&& (3 : Int32))), .val (.int (0 : Int32)), .val (.int (1 : Int32)), .val (.ref r_AND), .val (.int (0 : Int32))]) rfl ?_
          show Steps p.tables e below (T19.setTop (mkF m 54 #[.val (.int p1), .val (.int p2), .val (.int (p1 &&& (3 : Int32))), .val (.int (0 : Int32)), .val (.int (1 : Int32)), .val (.ref r_AND), .val (.int (0 : Int32))] [])) _
          refine XS.goto X19.here hx rfl (pc0 := 54) (pc' := 133) rfl (hb hby at_54) (by decide) (by decide) ?_
          show Steps p.tables e below (T19.setTop (mkF m 133 #[.val (.int p1), .val (.int p2), .val (.int (p1 &&& (3 : Int32))), .val (.int (0 : Int32)), .val (.int (1 : Int32)), .val (.ref r_AND), .val (.int (0 : Int32))] [])) _
          refine XS.aload X19.here hx rfl (hb hby at_133) rfl rfl ?_
          show Steps p.tables e below (T19.setTop (mkF m 135 #[.val (.int p1), .val (.int p2), .val (.int (p1 &&& (3 : Int32))), .val (.int (0 : Int32)), .val (.int (1 : Int32)), .val (.ref r_AND), .val (.int (0 : Int32))] [(.ref r_AND)])) _
          refine XS.iloadN X19.here hx rfl (hb hby at_135) rfl ?_
          show Steps p.tables e below (T19.setTop (mkF m 136 #[.val (.int p1), .val (.int p2), .val (.int (p1 &&& (3 : Int32))), .val (.int (0 : Int32)), .val (.int (1 : Int32)), .val (.ref r_AND), .val (.int (0 : Int32))] [(.int (0 : Int32)), (.ref r_AND)])) _
          refine XS.iload X19.here hx rfl (hb hby at_136) rfl ?_
          show Steps p.tables e below (T19.setTop (mkF m 138 #[.val (.int p1), .val (.int p2), .val (.int (p1 &&& (3 : Int32))), .val (.int (0 : Int32)), .val (.int (1 : Int32)), .val (.ref r_AND), .val (.int (0 : Int32))] [(.int (1 : Int32)), (.int (0 : Int32)), (.ref r_AND)])) _
          refine st20.trans ?_
          show Steps p.tables e below (T20.setTop (mkF m 141 #[.val (.int p1), .val (.int p2), .val (.int (p1 &&& (3 : Int32))), .val (.int (0 : Int32)), .val (.int (1 : Int32)), .val (.ref r_AND), .val (.int (0 : Int32))] [(.int (F1 (0 : Int32) (1 : Int32) (0 : Int32) (0 : Int32) (1 : Int32)))])) _
          refine XS.iload X20.here hx rfl (hb hby at_141) rfl ?_
          show Steps p.tables e below (T20.setTop (mkF m 143 #[.val (.int p1), .val (.int p2), .val (.int (p1 &&& (3 : Int32))), .val (.int (0 : Int32)), .val (.int (1 : Int32)), .val (.ref r_AND), .val (.int (0 : Int32))] [(.int (0 : Int32)), (.int (F1 (0 : Int32) (1 : Int32) (0 : Int32) (0 : Int32) (1 : Int32)))])) _
          by_cases hc143_21 : (F1 (0 : Int32) (1 : Int32) (0 : Int32) (0 : Int32) (1 : Int32)) = (0 : Int32)
          · refine XS.icmpNo X20.here hx rfl (hb hby at_143) rfl (teq hc143_21).2 ?_
            show Steps p.tables e below (T20.setTop (mkF m 146 #[.val (.int p1), .val (.int p2), .val (.int (p1 &&& (3 : Int32))), .val (.int (0 : Int32)), .val (.int (1 : Int32)), .val (.ref r_AND), .val (.int (0 : Int32))] [])) _
            refine XS.iconst X20.here hx rfl (hb hby at_146) ?_
            show Steps p.tables e below (T20.setTop (mkF m 147 #[.val (.int p1), .val (.int p2), .val (.int (p1 &&& (3 : Int32))), .val (.int (0 : Int32)), .val (.int (1 : Int32)), .val (.ref r_AND), .val (.int (0 : Int32))] [(.int (1 : Int32))])) _
            refine XS.goto X20.here hx rfl (pc0 := 147) (pc' := 151) rfl (hb hby at_147) (by decide) (by decide) ?_
            show Steps p.tables e below (T20.setTop (mkF m 151 #[.val (.int p1), .val (.int p2), .val (.int (p1 &&& (3 : Int32))), .val (.int (0 : Int32)), .val (.int (1 : Int32)), .val (.ref r_AND), .val (.int (0 : Int32))] [(.int (1 : Int32))])) _
            rw [if_pos hc143_21] at hr
            exact retN X20 hx (t := .boolean) Bd.returns (by simp) (hb hby at_151) hr
          · refine XS.icmpYes X20.here hx rfl (pc0 := 143) (pc' := 150) rfl (hb hby at_143) rfl (feq hc143_21).2 (by decide) (by decide) ?_
            show Steps p.tables e below (T20.setTop (mkF m 150 #[.val (.int p1), .val (.int p2), .val (.int (p1 &&& (3 : Int32))), .val (.int (0 : Int32)), .val (.int (1 : Int32)), .val (.ref r_AND), .val (.int (0 : Int32))] [])) _
            refine XS.iconst X20.here hx rfl (hb hby at_150) ?_
            show Steps p.tables e below (T20.setTop (mkF m 151 #[.val (.int p1), .val (.int p2), .val (.int (p1 &&& (3 : Int32))), .val (.int (0 : Int32)), .val (.int (1 : Int32)), .val (.ref r_AND), .val (.int (0 : Int32))] [(.int (0 : Int32))])) _
            rw [if_neg hc143_21] at hr
            exact retN X20 hx (t := .boolean) Bd.returns (by simp) (hb hby at_151) hr
        · show Q0 Z p1 p2 r_AND r_OR r_XOR r_AND_NOT h0 n0 _ T20.heap _
          rw [e20]
          exact ⟨congrArg (fun z => some (Value.int z)) ((show F0 p1 p2 = (if (F1 (0 : Int32) (1 : Int32) (0 : Int32) (0 : Int32) (1 : Int32)) = (0 : Int32) then (1 : Int32) else (0 : Int32)) by rw [F0, if_pos hc7_1, if_neg hc19_2, if_pos hc30_18]).symm.trans (own_law p1 p2)), N20⟩
      · by_cases hc59_22 : (p1 &&& (3 : Int32)) = (1 : Int32)
        · obtain ⟨T23, X23, e23, st23⟩ := getS2 X0 hx hZ hown (host := "") (Or.inl (hw _ (List.mem_of_getElem? (i := 14) rfl))) Via.refl e0 S_OR (g := (mkF m 62 #[.val (.int p1), .val (.int p2), .val (.int (p1 &&& (3 : Int32))), .val (.int (0 : Int32)), .val (.int (1 : Int32)), .unset, .unset] [])) rfl (hb hby at_62)
          obtain ⟨cq24, kq24, q24a, q24b, q24c⟩ := isOf hZ e23 E_OR
          obtain ⟨_, _, ⟨T24, L24, k24, n24⟩, -, X24, ⟨Lc24, hQ24, l24, y24, z24⟩, st24⟩ := X23.virtualBack hx (y := (⟨"com/example/bitweave/bitweave/SetOperation", "keeps", "(ZZ)Z"⟩ : MethodName)) (z := (⟨"com/example/bitweave/bitweave/SetOperation", "keeps", "(ZZ)Z"⟩ : MethodName)) hown (mvT hZ (hw _ (List.mem_of_getElem? (i := 3) rfl))) (mvT hZ (hw _ (List.mem_of_getElem? (i := 4) rfl))) (notFace_of_selects (args := #[]) (mvT hZ (hw _ (List.mem_of_getElem? (i := 6) rfl)))) (mvT hZ (hw _ (List.mem_of_getElem? (i := 6) rfl))) (mvT hZ (hw _ (List.mem_of_getElem? (i := 5) rfl))) (by decide) (backOf (W := 0) (rm1 l Z a0 hw [] r_OR (0 : Int32) (1 : Int32) (1 : Int32) (1 : Int32) (1 : Int32) h0 n0 Z0 F_OR_0 F_OR_1 F_OR_2) hZ (hw _ (List.mem_of_getElem? (i := 7) rfl)) (hw _ (List.mem_of_getElem? (i := 1) rfl)) (by decide) (by decide)) q24a q24c (g := (mkF m 138 #[.val (.int p1), .val (.int p2), .val (.int (p1 &&& (3 : Int32))), .val (.int (0 : Int32)), .val (.int (1 : Int32)), .val (.ref r_OR), .val (.int (1 : Int32))] [(.int (1 : Int32)), (.int (0 : Int32)), (.ref r_OR)])) rfl (by rw [hml]; rfl) (Steps.refl _) (argsL := [(.int (0 : Int32)), (.int (1 : Int32))]) (rest := []) (lenOf pd_1 rfl) rfl (by show 2 * 0 + _ ≤ _; exact Nat.le_of_eq rfl) (hb hby at_138) (fun _ _ => ⟨rfl, e23, (by decide : 0 + 0 ≤ _), (by decide : 0 + 0 ≤ _)⟩)
          dsimp only [Pt.U, Pt.locs, Pt.cells, Pt.slots] at X24 l24 y24 z24 st24 hQ24
          subst l24 y24 z24
          obtain ⟨rfl, N24q, e24⟩ := hQ24
          have N24 := Fr.app N0 N24q
          obtain ⟨fs, hr, hrun, hended, hW, hsame⟩ := X24.leave (v := some (.int (if (F1 (0 : Int32) (1 : Int32) (1 : Int32) (1 : Int32) (1 : Int32)) = (1 : Int32) then (1 : Int32) else (0 : Int32)))) (fun h => by rw [Bd.returns] at h; cases h)
          refine ⟨_, _, pre0 _ ?_, hrun, hended, _, _, rfl, ?_, ⟨_, rfl⟩, hW, hsame.mono (by decide) (by decide)⟩
          · show Steps p.tables e below (s₁.setTop (mkF m 0 #[.val (.int p1), .val (.int p2), .unset, .unset, .unset, .unset, .unset] [])) _
            refine XS.iloadN X0.here hx rfl (hb hby at_0) rfl ?_
            show Steps p.tables e below (s₁.setTop (mkF m 1 #[.val (.int p1), .val (.int p2), .unset, .unset, .unset, .unset, .unset] [(.int p1)])) _
            refine XS.iconst X0.here hx rfl (hb hby at_1) ?_
            show Steps p.tables e below (s₁.setTop (mkF m 2 #[.val (.int p1), .val (.int p2), .unset, .unset, .unset, .unset, .unset] [(.int (3 : Int32)), (.int p1)])) _
            refine XS.iand X0.here hx rfl (hb hby at_2) rfl ?_
            show Steps p.tables e below (s₁.setTop (mkF m 3 #[.val (.int p1), .val (.int p2), .unset, .unset, .unset, .unset, .unset] [(.int (p1 &&& (3 : Int32)))])) _
            refine XS.istoreN X0.here hx rfl (hb hby at_3) rfl (l' := #[.val (.int p1), .val (.int p2), .val (.int (p1 &&& (3 : Int32))), .unset, .unset, .unset, .unset]) rfl ?_
            show Steps p.tables e below (s₁.setTop (mkF m 4 #[.val (.int p1), .val (.int p2), .val (.int (p1 &&& (3 : Int32))), .unset, .unset, .unset, .unset] [])) _
            refine XS.iloadN X0.here hx rfl (hb hby at_4) rfl ?_
            show Steps p.tables e below (s₁.setTop (mkF m 5 #[.val (.int p1), .val (.int p2), .val (.int (p1 &&& (3 : Int32))), .unset, .unset, .unset, .unset] [(.int p2)])) _
            refine XS.iconst X0.here hx rfl (hb hby at_5) ?_
            show Steps p.tables e below (s₁.setTop (mkF m 6 #[.val (.int p1), .val (.int p2), .val (.int (p1 &&& (3 : Int32))), .unset, .unset, .unset, .unset] [(.int (1 : Int32)), (.int p2)])) _
            refine XS.iand X0.here hx rfl (hb hby at_6) rfl ?_
            show Steps p.tables e below (s₁.setTop (mkF m 7 #[.val (.int p1), .val (.int p2), .val (.int (p1 &&& (3 : Int32))), .unset, .unset, .unset, .unset] [(.int (p2 &&& (1 : Int32)))])) _
            refine XS.ifYes X0.here hx rfl (pc0 := 7) (pc' := 14) rfl (hb hby at_7) rfl ((if0 _ _).trans (teq hc7_1).1) (by decide) (by decide) ?_
            show Steps p.tables e below (s₁.setTop (mkF m 14 #[.val (.int p1), .val (.int p2), .val (.int (p1 &&& (3 : Int32))), .unset, .unset, .unset, .unset] [])) _
            refine XS.iconst X0.here hx rfl (hb hby at_14) ?_
            show Steps p.tables e below (s₁.setTop (mkF m 15 #[.val (.int p1), .val (.int p2), .val (.int (p1 &&& (3 : Int32))), .unset, .unset, .unset, .unset] [(.int (0 : Int32))])) _
            refine XS.istoreN X0.here hx rfl (hb hby at_15) rfl (l' := #[.val (.int p1), .val (.int p2), .val (.int (p1 &&& (3 : Int32))), .val (.int (0 : Int32)), .unset, .unset, .unset]) rfl ?_
            show Steps p.tables e below (s₁.setTop (mkF m 16 #[.val (.int p1), .val (.int p2), .val (.int (p1 &&& (3 : Int32))), .val (.int (0 : Int32)), .unset, .unset, .unset] [])) _
            refine XS.iloadN X0.here hx rfl (hb hby at_16) rfl ?_
            show Steps p.tables e below (s₁.setTop (mkF m 17 #[.val (.int p1), .val (.int p2), .val (.int (p1 &&& (3 : Int32))), .val (.int (0 : Int32)), .unset, .unset, .unset] [(.int p2)])) _
            refine XS.iconst X0.here hx rfl (hb hby at_17) ?_
            show Steps p.tables e below (s₁.setTop (mkF m 18 #[.val (.int p1), .val (.int p2), .val (.int (p1 &&& (3 : Int32))), .val (.int (0 : Int32)), .unset, .unset, .unset] [(.int (2 : Int32)), (.int p2)])) _
            refine XS.iand X0.here hx rfl (hb hby at_18) rfl ?_
            show Steps p.tables e below (s₁.setTop (mkF m 19 #[.val (.int p1), .val (.int p2), .val (.int (p1 &&& (3 : Int32))), .val (.int (0 : Int32)), .unset, .unset, .unset] [(.int (p2 &&& (2 : Int32)))])) _
            refine XS.ifNo X0.here hx rfl (hb hby at_19) rfl ((if0 _ _).trans (feq hc19_2).1) ?_
            show Steps p.tables e below (s₁.setTop (mkF m 22 #[.val (.int p1), .val (.int p2), .val (.int (p1 &&& (3 : Int32))), .val (.int (0 : Int32)), .unset, .unset, .unset] [])) _
            refine XS.iconst X0.here hx rfl (hb hby at_22) ?_
            show Steps p.tables e below (s₁.setTop (mkF m 23 #[.val (.int p1), .val (.int p2), .val (.int (p1 &&& (3 : Int32))), .val (.int (0 : Int32)), .unset, .unset, .unset] [(.int (1 : Int32))])) _
            refine XS.goto X0.here hx rfl (pc0 := 23) (pc' := 27) rfl (hb hby at_23) (by decide) (by decide) ?_
            show Steps p.tables e below (s₁.setTop (mkF m 27 #[.val (.int p1), .val (.int p2), .val (.int (p1 &&& (3 : Int32))), .val (.int (0 : Int32)), .unset, .unset, .unset] [(.int (1 : Int32))])) _
            refine XS.istore X0.here hx rfl (hb hby at_27) rfl (l' := #[.val (.int p1), .val (.int p2), .val (.int (p1 &&& (3 : Int32))), .val (.int (0 : Int32)), .val (.int (1 : Int32)), .unset, .unset]) rfl ?_
            show Steps p.tables e below (s₁.setTop (mkF m 29 #[.val (.int p1), .val (.int p2), .val (.int (p1 &&& (3 : Int32))), .val (.int (0 : Int32)), .val (.int (1 : Int32)), .unset, .unset] [])) _
            refine XS.iloadN X0.here hx rfl (hb hby at_29) rfl ?_
            show Steps p.tables e below (s₁.setTop (mkF m 30 #[.val (.int p1), .val (.int p2), .val (.int (p1 &&& (3 : Int32))), .val (.int (0 : Int32)), .val (.int (1 : Int32)), .unset, .unset] [(.int (p1 &&& (3 : Int32)))])) _
            refine XS.ifYes X0.here hx rfl (pc0 := 30) (pc' := 57) rfl (hb hby at_30) rfl ((if0 _ _).trans (feq hc30_18).2) (by decide) (by decide) ?_
            show Steps p.tables e below (s₁.setTop (mkF m 57 #[.val (.int p1), .val (.int p2), .val (.int (p1 &&& (3 : Int32))), .val (.int (0 : Int32)), .val (.int (1 : Int32)), .unset, .unset] [])) _
            refine XS.iloadN X0.here hx rfl (hb hby at_57) rfl ?_
            show Steps p.tables e below (s₁.setTop (mkF m 58 #[.val (.int p1), .val (.int p2), .val (.int (p1 &&& (3 : Int32))), .val (.int (0 : Int32)), .val (.int (1 : Int32)), .unset, .unset] [(.int (p1 &&& (3 : Int32)))])) _
            refine XS.iconst X0.here hx rfl (hb hby at_58) ?_
            show Steps p.tables e below (s₁.setTop (mkF m 59 #[.val (.int p1), .val (.int p2), .val (.int (p1 &&& (3 : Int32))), .val (.int (0 : Int32)), .val (.int (1 : Int32)), .unset, .unset] [(.int (1 : Int32)), (.int (p1 &&& (3 : Int32)))])) _
            refine XS.icmpNo X0.here hx rfl (hb hby at_59) rfl (teq hc59_22).2 ?_
            show Steps p.tables e below (s₁.setTop (mkF m 62 #[.val (.int p1), .val (.int p2), .val (.int (p1 &&& (3 : Int32))), .val (.int (0 : Int32)), .val (.int (1 : Int32)), .unset, .unset] [])) _
            refine st23 _ ?_
            show Steps p.tables e below (T23.setTop (mkF m 65 #[.val (.int p1), .val (.int p2), .val (.int (p1 &&& (3 : Int32))), .val (.int (0 : Int32)), .val (.int (1 : Int32)), .unset, .unset] [(.ref r_OR)])) _
            refine XS.astore X23.here hx rfl (hb hby at_65) rfl rfl (l' := #[.val (.int p1), .val (.int p2), .val (.int (p1 &&& (3 : Int32))), .val (.int (0 : Int32)), .val (.int (1 : Int32)), .val (.ref r_OR), .unset]) rfl ?_
            show Steps p.tables e below (T23.setTop (mkF m 67 #[.val (.int p1), .val (.int p2), .val (.int (p1 &&& (3 : Int32))), .val (.int (0 : Int32)), .val (.int (1 : Int32)), .val (.ref r_OR), .unset] [])) _
            refine XS.iloadN X23.here hx rfl (hb hby at_67) rfl ?_
            show Steps p.tables e below (T23.setTop (mkF m 68 #[.val (.int p1), .val (.int p2), .val (.int (p1 &&& (3 : Int32))), .val (.int (0 : Int32)), .val (.int (1 : Int32)), .val (.ref r_OR), .unset] [(.int (0 : Int32))])) _
            refine XS.ifNo X23.here hx rfl (hb hby at_68) rfl ((if0 _ _).trans (teq (rfl : (0 : Int32) = (0 : Int32))).2) ?_
            show Steps p.tables e below (T23.setTop (mkF m 71 #[.val (.int p1), .val (.int p2), .val (.int (p1 &&& (3 : Int32))), .val (.int (0 : Int32)), .val (.int (1 : Int32)), .val (.ref r_OR), .unset] [])) _
            refine XS.iload X23.here hx rfl (hb hby at_71) rfl ?_
            show Steps p.tables e below (T23.setTop (mkF m 73 #[.val (.int p1), .val (.int p2), .val (.int (p1 &&& (3 : Int32))), .val (.int (0 : Int32)), .val (.int (1 : Int32)), .val (.ref r_OR), .unset] [(.int (1 : Int32))])) _
            refine XS.ifNo X23.here hx rfl (hb hby at_73) rfl ((if0 _ _).trans (feq (by decide : ¬ ((1 : Int32) = (0 : Int32)))).1) ?_
            show Steps p.tables e below (T23.setTop (mkF m 76 #[.val (.int p1), .val (.int p2), .val (.int (p1 &&& (3 : Int32))), .val (.int (0 : Int32)), .val (.int (1 : Int32)), .val (.ref r_OR), .unset] [])) _
            refine XS.iconst X23.here hx rfl (hb hby at_76) ?_
            show Steps p.tables e below (T23.setTop (mkF m 77 #[.val (.int p1), .val (.int p2), .val (.int (p1 &&& (3 : Int32))), .val (.int (0 : Int32)), .val (.int (1 : Int32)), .val (.ref r_OR), .unset] [(.int (1 : Int32))])) _
            refine XS.goto X23.here hx rfl (pc0 := 77) (pc' := 81) rfl (hb hby at_77) (by decide) (by decide) ?_
            show Steps p.tables e below (T23.setTop (mkF m 81 #[.val (.int p1), .val (.int p2), .val (.int (p1 &&& (3 : Int32))), .val (.int (0 : Int32)), .val (.int (1 : Int32)), .val (.ref r_OR), .unset] [(.int (1 : Int32))])) _
            refine XS.istore X23.here hx rfl (hb hby at_81) rfl (l' := #[.val (.int p1), .val (.int p2), .val (.int (p1 &&& (3 : Int32))), .val (.int (0 : Int32)), .val (.int (1 : Int32)), .val (.ref r_OR), .val (.int (1 : Int32))]) rfl ?_
            show Steps p.tables e below (T23.setTop (mkF m 83 #[.val (.int p1), .val (.int p2), .val (.int (p1 &&& (3 : Int32))), .val (.int (0 : Int32)), .val (.int (1 : Int32)), .val (.ref r_OR), .val (.int (1 : Int32))] [])) _
            refine XS.goto X23.here hx rfl (pc0 := 83) (pc' := 133) rfl (hb hby at_83) (by decide) (by decide) ?_
            show Steps p.tables e below (T23.setTop (mkF m 133 #[.val (.int p1), .val (.int p2), .val (.int (p1 &&& (3 : Int32))), .val (.int (0 : Int32)), .val (.int (1 : Int32)), .val (.ref r_OR), .val (.int (1 : Int32))] [])) _
            refine XS.aload X23.here hx rfl (hb hby at_133) rfl rfl ?_
            show Steps p.tables e below (T23.setTop (mkF m 135 #[.val (.int p1), .val (.int p2), .val (.int (p1 &&& (3 : Int32))), .val (.int (0 : Int32)), .val (.int (1 : Int32)), .val (.ref r_OR), .val (.int (1 : Int32))] [(.ref r_OR)])) _
            refine XS.iloadN X23.here hx rfl (hb hby at_135) rfl ?_
            show Steps p.tables e below (T23.setTop (mkF m 136 #[.val (.int p1), .val (.int p2), .val (.int (p1 &&& (3 : Int32))), .val (.int (0 : Int32)), .val (.int (1 : Int32)), .val (.ref r_OR), .val (.int (1 : Int32))] [(.int (0 : Int32)), (.ref r_OR)])) _
            refine XS.iload X23.here hx rfl (hb hby at_136) rfl ?_
            show Steps p.tables e below (T23.setTop (mkF m 138 #[.val (.int p1), .val (.int p2), .val (.int (p1 &&& (3 : Int32))), .val (.int (0 : Int32)), .val (.int (1 : Int32)), .val (.ref r_OR), .val (.int (1 : Int32))] [(.int (1 : Int32)), (.int (0 : Int32)), (.ref r_OR)])) _
            refine st24.trans ?_
            show Steps p.tables e below (T24.setTop (mkF m 141 #[.val (.int p1), .val (.int p2), .val (.int (p1 &&& (3 : Int32))), .val (.int (0 : Int32)), .val (.int (1 : Int32)), .val (.ref r_OR), .val (.int (1 : Int32))] [(.int (F1 (0 : Int32) (1 : Int32) (1 : Int32) (1 : Int32) (1 : Int32)))])) _
            refine XS.iload X24.here hx rfl (hb hby at_141) rfl ?_
            show Steps p.tables e below (T24.setTop (mkF m 143 #[.val (.int p1), .val (.int p2), .val (.int (p1 &&& (3 : Int32))), .val (.int (0 : Int32)), .val (.int (1 : Int32)), .val (.ref r_OR), .val (.int (1 : Int32))] [(.int (1 : Int32)), (.int (F1 (0 : Int32) (1 : Int32) (1 : Int32) (1 : Int32) (1 : Int32)))])) _
            by_cases hc143_25 : (F1 (0 : Int32) (1 : Int32) (1 : Int32) (1 : Int32) (1 : Int32)) = (1 : Int32)
            · refine XS.icmpNo X24.here hx rfl (hb hby at_143) rfl (teq hc143_25).2 ?_
              show Steps p.tables e below (T24.setTop (mkF m 146 #[.val (.int p1), .val (.int p2), .val (.int (p1 &&& (3 : Int32))), .val (.int (0 : Int32)), .val (.int (1 : Int32)), .val (.ref r_OR), .val (.int (1 : Int32))] [])) _
              refine XS.iconst X24.here hx rfl (hb hby at_146) ?_
              show Steps p.tables e below (T24.setTop (mkF m 147 #[.val (.int p1), .val (.int p2), .val (.int (p1 &&& (3 : Int32))), .val (.int (0 : Int32)), .val (.int (1 : Int32)), .val (.ref r_OR), .val (.int (1 : Int32))] [(.int (1 : Int32))])) _
              refine XS.goto X24.here hx rfl (pc0 := 147) (pc' := 151) rfl (hb hby at_147) (by decide) (by decide) ?_
              show Steps p.tables e below (T24.setTop (mkF m 151 #[.val (.int p1), .val (.int p2), .val (.int (p1 &&& (3 : Int32))), .val (.int (0 : Int32)), .val (.int (1 : Int32)), .val (.ref r_OR), .val (.int (1 : Int32))] [(.int (1 : Int32))])) _
              rw [if_pos hc143_25] at hr
              exact retN X24 hx (t := .boolean) Bd.returns (by simp) (hb hby at_151) hr
            · refine XS.icmpYes X24.here hx rfl (pc0 := 143) (pc' := 150) rfl (hb hby at_143) rfl (feq hc143_25).2 (by decide) (by decide) ?_
              show Steps p.tables e below (T24.setTop (mkF m 150 #[.val (.int p1), .val (.int p2), .val (.int (p1 &&& (3 : Int32))), .val (.int (0 : Int32)), .val (.int (1 : Int32)), .val (.ref r_OR), .val (.int (1 : Int32))] [])) _
              refine XS.iconst X24.here hx rfl (hb hby at_150) ?_
              show Steps p.tables e below (T24.setTop (mkF m 151 #[.val (.int p1), .val (.int p2), .val (.int (p1 &&& (3 : Int32))), .val (.int (0 : Int32)), .val (.int (1 : Int32)), .val (.ref r_OR), .val (.int (1 : Int32))] [(.int (0 : Int32))])) _
              rw [if_neg hc143_25] at hr
              exact retN X24 hx (t := .boolean) Bd.returns (by simp) (hb hby at_151) hr
          · show Q0 Z p1 p2 r_AND r_OR r_XOR r_AND_NOT h0 n0 _ T24.heap _
            rw [e24]
            exact ⟨congrArg (fun z => some (Value.int z)) ((show F0 p1 p2 = (if (F1 (0 : Int32) (1 : Int32) (1 : Int32) (1 : Int32) (1 : Int32)) = (1 : Int32) then (1 : Int32) else (0 : Int32)) by rw [F0, if_pos hc7_1, if_neg hc19_2, if_neg hc30_18, if_pos hc59_22]).symm.trans (own_law p1 p2)), N24⟩
        · by_cases hc88_26 : (p1 &&& (3 : Int32)) = (2 : Int32)
          · obtain ⟨T27, X27, e27, st27⟩ := getS2 X0 hx hZ hown (host := "") (Or.inl (hw _ (List.mem_of_getElem? (i := 10) rfl))) Via.refl e0 S_XOR (g := (mkF m 91 #[.val (.int p1), .val (.int p2), .val (.int (p1 &&& (3 : Int32))), .val (.int (0 : Int32)), .val (.int (1 : Int32)), .unset, .unset] [])) rfl (hb hby at_91)
            obtain ⟨cq28, kq28, q28a, q28b, q28c⟩ := isOf hZ e27 E_XOR
            obtain ⟨_, _, ⟨T28, L28, k28, n28⟩, -, X28, ⟨Lc28, hQ28, l28, y28, z28⟩, st28⟩ := X27.virtualBack hx (y := (⟨"com/example/bitweave/bitweave/SetOperation", "keeps", "(ZZ)Z"⟩ : MethodName)) (z := (⟨"com/example/bitweave/bitweave/SetOperation", "keeps", "(ZZ)Z"⟩ : MethodName)) hown (mvT hZ (hw _ (List.mem_of_getElem? (i := 3) rfl))) (mvT hZ (hw _ (List.mem_of_getElem? (i := 4) rfl))) (notFace_of_selects (args := #[]) (mvT hZ (hw _ (List.mem_of_getElem? (i := 6) rfl)))) (mvT hZ (hw _ (List.mem_of_getElem? (i := 6) rfl))) (mvT hZ (hw _ (List.mem_of_getElem? (i := 5) rfl))) (by decide) (backOf (W := 0) (rm1 l Z a0 hw [] r_XOR (0 : Int32) (1 : Int32) (1 : Int32) (1 : Int32) (0 : Int32) h0 n0 Z0 F_XOR_0 F_XOR_1 F_XOR_2) hZ (hw _ (List.mem_of_getElem? (i := 7) rfl)) (hw _ (List.mem_of_getElem? (i := 1) rfl)) (by decide) (by decide)) q28a q28c (g := (mkF m 138 #[.val (.int p1), .val (.int p2), .val (.int (p1 &&& (3 : Int32))), .val (.int (0 : Int32)), .val (.int (1 : Int32)), .val (.ref r_XOR), .val (.int (1 : Int32))] [(.int (1 : Int32)), (.int (0 : Int32)), (.ref r_XOR)])) rfl (by rw [hml]; rfl) (Steps.refl _) (argsL := [(.int (0 : Int32)), (.int (1 : Int32))]) (rest := []) (lenOf pd_1 rfl) rfl (by show 2 * 0 + _ ≤ _; exact Nat.le_of_eq rfl) (hb hby at_138) (fun _ _ => ⟨rfl, e27, (by decide : 0 + 0 ≤ _), (by decide : 0 + 0 ≤ _)⟩)
            dsimp only [Pt.U, Pt.locs, Pt.cells, Pt.slots] at X28 l28 y28 z28 st28 hQ28
            subst l28 y28 z28
            obtain ⟨rfl, N28q, e28⟩ := hQ28
            have N28 := Fr.app N0 N28q
            obtain ⟨fs, hr, hrun, hended, hW, hsame⟩ := X28.leave (v := some (.int (if (F1 (0 : Int32) (1 : Int32) (1 : Int32) (1 : Int32) (0 : Int32)) = (1 : Int32) then (1 : Int32) else (0 : Int32)))) (fun h => by rw [Bd.returns] at h; cases h)
            refine ⟨_, _, pre0 _ ?_, hrun, hended, _, _, rfl, ?_, ⟨_, rfl⟩, hW, hsame.mono (by decide) (by decide)⟩
            · show Steps p.tables e below (s₁.setTop (mkF m 0 #[.val (.int p1), .val (.int p2), .unset, .unset, .unset, .unset, .unset] [])) _
              refine XS.iloadN X0.here hx rfl (hb hby at_0) rfl ?_
              show Steps p.tables e below (s₁.setTop (mkF m 1 #[.val (.int p1), .val (.int p2), .unset, .unset, .unset, .unset, .unset] [(.int p1)])) _
              refine XS.iconst X0.here hx rfl (hb hby at_1) ?_
              show Steps p.tables e below (s₁.setTop (mkF m 2 #[.val (.int p1), .val (.int p2), .unset, .unset, .unset, .unset, .unset] [(.int (3 : Int32)), (.int p1)])) _
              refine XS.iand X0.here hx rfl (hb hby at_2) rfl ?_
              show Steps p.tables e below (s₁.setTop (mkF m 3 #[.val (.int p1), .val (.int p2), .unset, .unset, .unset, .unset, .unset] [(.int (p1 &&& (3 : Int32)))])) _
              refine XS.istoreN X0.here hx rfl (hb hby at_3) rfl (l' := #[.val (.int p1), .val (.int p2), .val (.int (p1 &&& (3 : Int32))), .unset, .unset, .unset, .unset]) rfl ?_
              show Steps p.tables e below (s₁.setTop (mkF m 4 #[.val (.int p1), .val (.int p2), .val (.int (p1 &&& (3 : Int32))), .unset, .unset, .unset, .unset] [])) _
              refine XS.iloadN X0.here hx rfl (hb hby at_4) rfl ?_
              show Steps p.tables e below (s₁.setTop (mkF m 5 #[.val (.int p1), .val (.int p2), .val (.int (p1 &&& (3 : Int32))), .unset, .unset, .unset, .unset] [(.int p2)])) _
              refine XS.iconst X0.here hx rfl (hb hby at_5) ?_
              show Steps p.tables e below (s₁.setTop (mkF m 6 #[.val (.int p1), .val (.int p2), .val (.int (p1 &&& (3 : Int32))), .unset, .unset, .unset, .unset] [(.int (1 : Int32)), (.int p2)])) _
              refine XS.iand X0.here hx rfl (hb hby at_6) rfl ?_
              show Steps p.tables e below (s₁.setTop (mkF m 7 #[.val (.int p1), .val (.int p2), .val (.int (p1 &&& (3 : Int32))), .unset, .unset, .unset, .unset] [(.int (p2 &&& (1 : Int32)))])) _
              refine XS.ifYes X0.here hx rfl (pc0 := 7) (pc' := 14) rfl (hb hby at_7) rfl ((if0 _ _).trans (teq hc7_1).1) (by decide) (by decide) ?_
              show Steps p.tables e below (s₁.setTop (mkF m 14 #[.val (.int p1), .val (.int p2), .val (.int (p1 &&& (3 : Int32))), .unset, .unset, .unset, .unset] [])) _
              refine XS.iconst X0.here hx rfl (hb hby at_14) ?_
              show Steps p.tables e below (s₁.setTop (mkF m 15 #[.val (.int p1), .val (.int p2), .val (.int (p1 &&& (3 : Int32))), .unset, .unset, .unset, .unset] [(.int (0 : Int32))])) _
              refine XS.istoreN X0.here hx rfl (hb hby at_15) rfl (l' := #[.val (.int p1), .val (.int p2), .val (.int (p1 &&& (3 : Int32))), .val (.int (0 : Int32)), .unset, .unset, .unset]) rfl ?_
              show Steps p.tables e below (s₁.setTop (mkF m 16 #[.val (.int p1), .val (.int p2), .val (.int (p1 &&& (3 : Int32))), .val (.int (0 : Int32)), .unset, .unset, .unset] [])) _
              refine XS.iloadN X0.here hx rfl (hb hby at_16) rfl ?_
              show Steps p.tables e below (s₁.setTop (mkF m 17 #[.val (.int p1), .val (.int p2), .val (.int (p1 &&& (3 : Int32))), .val (.int (0 : Int32)), .unset, .unset, .unset] [(.int p2)])) _
              refine XS.iconst X0.here hx rfl (hb hby at_17) ?_
              show Steps p.tables e below (s₁.setTop (mkF m 18 #[.val (.int p1), .val (.int p2), .val (.int (p1 &&& (3 : Int32))), .val (.int (0 : Int32)), .unset, .unset, .unset] [(.int (2 : Int32)), (.int p2)])) _
              refine XS.iand X0.here hx rfl (hb hby at_18) rfl ?_
              show Steps p.tables e below (s₁.setTop (mkF m 19 #[.val (.int p1), .val (.int p2), .val (.int (p1 &&& (3 : Int32))), .val (.int (0 : Int32)), .unset, .unset, .unset] [(.int (p2 &&& (2 : Int32)))])) _
              refine XS.ifNo X0.here hx rfl (hb hby at_19) rfl ((if0 _ _).trans (feq hc19_2).1) ?_
              show Steps p.tables e below (s₁.setTop (mkF m 22 #[.val (.int p1), .val (.int p2), .val (.int (p1 &&& (3 : Int32))), .val (.int (0 : Int32)), .unset, .unset, .unset] [])) _
              refine XS.iconst X0.here hx rfl (hb hby at_22) ?_
              show Steps p.tables e below (s₁.setTop (mkF m 23 #[.val (.int p1), .val (.int p2), .val (.int (p1 &&& (3 : Int32))), .val (.int (0 : Int32)), .unset, .unset, .unset] [(.int (1 : Int32))])) _
              refine XS.goto X0.here hx rfl (pc0 := 23) (pc' := 27) rfl (hb hby at_23) (by decide) (by decide) ?_
              show Steps p.tables e below (s₁.setTop (mkF m 27 #[.val (.int p1), .val (.int p2), .val (.int (p1 &&& (3 : Int32))), .val (.int (0 : Int32)), .unset, .unset, .unset] [(.int (1 : Int32))])) _
              refine XS.istore X0.here hx rfl (hb hby at_27) rfl (l' := #[.val (.int p1), .val (.int p2), .val (.int (p1 &&& (3 : Int32))), .val (.int (0 : Int32)), .val (.int (1 : Int32)), .unset, .unset]) rfl ?_
              show Steps p.tables e below (s₁.setTop (mkF m 29 #[.val (.int p1), .val (.int p2), .val (.int (p1 &&& (3 : Int32))), .val (.int (0 : Int32)), .val (.int (1 : Int32)), .unset, .unset] [])) _
              refine XS.iloadN X0.here hx rfl (hb hby at_29) rfl ?_
              show Steps p.tables e below (s₁.setTop (mkF m 30 #[.val (.int p1), .val (.int p2), .val (.int (p1 &&& (3 : Int32))), .val (.int (0 : Int32)), .val (.int (1 : Int32)), .unset, .unset] [(.int (p1 &&& (3 : Int32)))])) _
              refine XS.ifYes X0.here hx rfl (pc0 := 30) (pc' := 57) rfl (hb hby at_30) rfl ((if0 _ _).trans (feq hc30_18).2) (by decide) (by decide) ?_
              show Steps p.tables e below (s₁.setTop (mkF m 57 #[.val (.int p1), .val (.int p2), .val (.int (p1 &&& (3 : Int32))), .val (.int (0 : Int32)), .val (.int (1 : Int32)), .unset, .unset] [])) _
              refine XS.iloadN X0.here hx rfl (hb hby at_57) rfl ?_
              show Steps p.tables e below (s₁.setTop (mkF m 58 #[.val (.int p1), .val (.int p2), .val (.int (p1 &&& (3 : Int32))), .val (.int (0 : Int32)), .val (.int (1 : Int32)), .unset, .unset] [(.int (p1 &&& (3 : Int32)))])) _
              refine XS.iconst X0.here hx rfl (hb hby at_58) ?_
              show Steps p.tables e below (s₁.setTop (mkF m 59 #[.val (.int p1), .val (.int p2), .val (.int (p1 &&& (3 : Int32))), .val (.int (0 : Int32)), .val (.int (1 : Int32)), .unset, .unset] [(.int (1 : Int32)), (.int (p1 &&& (3 : Int32)))])) _
              refine XS.icmpYes X0.here hx rfl (pc0 := 59) (pc' := 86) rfl (hb hby at_59) rfl (feq hc59_22).2 (by decide) (by decide) ?_
              show Steps p.tables e below (s₁.setTop (mkF m 86 #[.val (.int p1), .val (.int p2), .val (.int (p1 &&& (3 : Int32))), .val (.int (0 : Int32)), .val (.int (1 : Int32)), .unset, .unset] [])) _
              refine XS.iloadN X0.here hx rfl (hb hby at_86) rfl ?_
              show Steps p.tables e below (s₁.setTop (mkF m 87 #[.val (.int p1), .val (.int p2), .val (.int (p1 &&& (3 : Int32))), .val (.int (0 : Int32)), .val (.int (1 : Int32)), .unset, .unset] [(.int (p1 &&& (3 : Int32)))])) _
              refine XS.iconst X0.here hx rfl (hb hby at_87) ?_
              show Steps p.tables e below (s₁.setTop (mkF m 88 #[.val (.int p1), .val (.int p2), .val (.int (p1 &&& (3 : Int32))), .val (.int (0 : Int32)), .val (.int (1 : Int32)), .unset, .unset] [(.int (2 : Int32)), (.int (p1 &&& (3 : Int32)))])) _
              refine XS.icmpNo X0.here hx rfl (hb hby at_88) rfl (teq hc88_26).2 ?_
              show Steps p.tables e below (s₁.setTop (mkF m 91 #[.val (.int p1), .val (.int p2), .val (.int (p1 &&& (3 : Int32))), .val (.int (0 : Int32)), .val (.int (1 : Int32)), .unset, .unset] [])) _
              refine st27 _ ?_
              show Steps p.tables e below (T27.setTop (mkF m 94 #[.val (.int p1), .val (.int p2), .val (.int (p1 &&& (3 : Int32))), .val (.int (0 : Int32)), .val (.int (1 : Int32)), .unset, .unset] [(.ref r_XOR)])) _
              refine XS.astore X27.here hx rfl (hb hby at_94) rfl rfl (l' := #[.val (.int p1), .val (.int p2), .val (.int (p1 &&& (3 : Int32))), .val (.int (0 : Int32)), .val (.int (1 : Int32)), .val (.ref r_XOR), .unset]) rfl ?_
              show Steps p.tables e below (T27.setTop (mkF m 96 #[.val (.int p1), .val (.int p2), .val (.int (p1 &&& (3 : Int32))), .val (.int (0 : Int32)), .val (.int (1 : Int32)), .val (.ref r_XOR), .unset] [])) _
              refine XS.iloadN X27.here hx rfl (hb hby at_96) rfl ?_
              show Steps p.tables e below (T27.setTop (mkF m 97 #[.val (.int p1), .val (.int p2), .val (.int (p1 &&& (3 : Int32))), .val (.int (0 : Int32)), .val (.int (1 : Int32)), .val (.ref r_XOR), .unset] [(.int (0 : Int32))])) _
              refine XS.iload X27.here hx rfl (hb hby at_97) rfl ?_
              show Steps p.tables e below (T27.setTop (mkF m 99 #[.val (.int p1), .val (.int p2), .val (.int (p1 &&& (3 : Int32))), .val (.int (0 : Int32)), .val (.int (1 : Int32)), .val (.ref r_XOR), .unset] [(.int (1 : Int32)), (.int (0 : Int32))])) _
              refine XS.icmpNo X27.here hx rfl (hb hby at_99) rfl (feq (by decide : ¬ ((0 : Int32) = (1 : Int32)))).1 ?_
              show Steps p.tables e below (T27.setTop (mkF m 102 #[.val (.int p1), .val (.int p2), .val (.int (p1 &&& (3 : Int32))), .val (.int (0 : Int32)), .val (.int (1 : Int32)), .val (.ref r_XOR), .unset] [])) _
              refine XS.iconst X27.here hx rfl (hb hby at_102) ?_
              show Steps p.tables e below (T27.setTop (mkF m 103 #[.val (.int p1), .val (.int p2), .val (.int (p1 &&& (3 : Int32))), .val (.int (0 : Int32)), .val (.int (1 : Int32)), .val (.ref r_XOR), .unset] [(.int (1 : Int32))])) _
              refine XS.goto X27.here hx rfl (pc0 := 103) (pc' := 107) rfl (hb hby at_103) (by decide) (by decide) ?_
              show Steps p.tables e below (T27.setTop (mkF m 107 #[.val (.int p1), .val (.int p2), .val (.int (p1 &&& (3 : Int32))), .val (.int (0 : Int32)), .val (.int (1 : Int32)), .val (.ref r_XOR), .unset] [(.int (1 : Int32))])) _
              refine XS.istore X27.here hx rfl (hb hby at_107) rfl (l' := #[.val (.int p1), .val (.int p2), .val (.int (p1 &&& (3 : Int32))), .val (.int (0 : Int32)), .val (.int (1 : Int32)), .val (.ref r_XOR), .val (.int (1 : Int32))]) rfl ?_
              show Steps p.tables e below (T27.setTop (mkF m 109 #[.val (.int p1), .val (.int p2), .val (.int (p1 &&& (3 : Int32))), .val (.int (0 : Int32)), .val (.int (1 : Int32)), .val (.ref r_XOR), .val (.int (1 : Int32))] [])) _
              refine XS.goto X27.here hx rfl (pc0 := 109) (pc' := 133) rfl (hb hby at_109) (by decide) (by decide) ?_
              show Steps p.tables e below (T27.setTop (mkF m 133 #[.val (.int p1), .val (.int p2), .val (.int (p1 &&& (3 : Int32))), .val (.int (0 : Int32)), .val (.int (1 : Int32)), .val (.ref r_XOR), .val (.int (1 : Int32))] [])) _
              refine XS.aload X27.here hx rfl (hb hby at_133) rfl rfl ?_
              show Steps p.tables e below (T27.setTop (mkF m 135 #[.val (.int p1), .val (.int p2), .val (.int (p1 &&& (3 : Int32))), .val (.int (0 : Int32)), .val (.int (1 : Int32)), .val (.ref r_XOR), .val (.int (1 : Int32))] [(.ref r_XOR)])) _
              refine XS.iloadN X27.here hx rfl (hb hby at_135) rfl ?_
              show Steps p.tables e below (T27.setTop (mkF m 136 #[.val (.int p1), .val (.int p2), .val (.int (p1 &&& (3 : Int32))), .val (.int (0 : Int32)), .val (.int (1 : Int32)), .val (.ref r_XOR), .val (.int (1 : Int32))] [(.int (0 : Int32)), (.ref r_XOR)])) _
              refine XS.iload X27.here hx rfl (hb hby at_136) rfl ?_
              show Steps p.tables e below (T27.setTop (mkF m 138 #[.val (.int p1), .val (.int p2), .val (.int (p1 &&& (3 : Int32))), .val (.int (0 : Int32)), .val (.int (1 : Int32)), .val (.ref r_XOR), .val (.int (1 : Int32))] [(.int (1 : Int32)), (.int (0 : Int32)), (.ref r_XOR)])) _
              refine st28.trans ?_
              show Steps p.tables e below (T28.setTop (mkF m 141 #[.val (.int p1), .val (.int p2), .val (.int (p1 &&& (3 : Int32))), .val (.int (0 : Int32)), .val (.int (1 : Int32)), .val (.ref r_XOR), .val (.int (1 : Int32))] [(.int (F1 (0 : Int32) (1 : Int32) (1 : Int32) (1 : Int32) (0 : Int32)))])) _
              refine XS.iload X28.here hx rfl (hb hby at_141) rfl ?_
              show Steps p.tables e below (T28.setTop (mkF m 143 #[.val (.int p1), .val (.int p2), .val (.int (p1 &&& (3 : Int32))), .val (.int (0 : Int32)), .val (.int (1 : Int32)), .val (.ref r_XOR), .val (.int (1 : Int32))] [(.int (1 : Int32)), (.int (F1 (0 : Int32) (1 : Int32) (1 : Int32) (1 : Int32) (0 : Int32)))])) _
              by_cases hc143_29 : (F1 (0 : Int32) (1 : Int32) (1 : Int32) (1 : Int32) (0 : Int32)) = (1 : Int32)
              · refine XS.icmpNo X28.here hx rfl (hb hby at_143) rfl (teq hc143_29).2 ?_
                show Steps p.tables e below (T28.setTop (mkF m 146 #[.val (.int p1), .val (.int p2), .val (.int (p1 &&& (3 : Int32))), .val (.int (0 : Int32)), .val (.int (1 : Int32)), .val (.ref r_XOR), .val (.int (1 : Int32))] [])) _
                refine XS.iconst X28.here hx rfl (hb hby at_146) ?_
                show Steps p.tables e below (T28.setTop (mkF m 147 #[.val (.int p1), .val (.int p2), .val (.int (p1 &&& (3 : Int32))), .val (.int (0 : Int32)), .val (.int (1 : Int32)), .val (.ref r_XOR), .val (.int (1 : Int32))] [(.int (1 : Int32))])) _
                refine XS.goto X28.here hx rfl (pc0 := 147) (pc' := 151) rfl (hb hby at_147) (by decide) (by decide) ?_
                show Steps p.tables e below (T28.setTop (mkF m 151 #[.val (.int p1), .val (.int p2), .val (.int (p1 &&& (3 : Int32))), .val (.int (0 : Int32)), .val (.int (1 : Int32)), .val (.ref r_XOR), .val (.int (1 : Int32))] [(.int (1 : Int32))])) _
                rw [if_pos hc143_29] at hr
                exact retN X28 hx (t := .boolean) Bd.returns (by simp) (hb hby at_151) hr
              · refine XS.icmpYes X28.here hx rfl (pc0 := 143) (pc' := 150) rfl (hb hby at_143) rfl (feq hc143_29).2 (by decide) (by decide) ?_
                show Steps p.tables e below (T28.setTop (mkF m 150 #[.val (.int p1), .val (.int p2), .val (.int (p1 &&& (3 : Int32))), .val (.int (0 : Int32)), .val (.int (1 : Int32)), .val (.ref r_XOR), .val (.int (1 : Int32))] [])) _
                refine XS.iconst X28.here hx rfl (hb hby at_150) ?_
                show Steps p.tables e below (T28.setTop (mkF m 151 #[.val (.int p1), .val (.int p2), .val (.int (p1 &&& (3 : Int32))), .val (.int (0 : Int32)), .val (.int (1 : Int32)), .val (.ref r_XOR), .val (.int (1 : Int32))] [(.int (0 : Int32))])) _
                rw [if_neg hc143_29] at hr
                exact retN X28 hx (t := .boolean) Bd.returns (by simp) (hb hby at_151) hr
            · show Q0 Z p1 p2 r_AND r_OR r_XOR r_AND_NOT h0 n0 _ T28.heap _
              rw [e28]
              exact ⟨congrArg (fun z => some (Value.int z)) ((show F0 p1 p2 = (if (F1 (0 : Int32) (1 : Int32) (1 : Int32) (1 : Int32) (0 : Int32)) = (1 : Int32) then (1 : Int32) else (0 : Int32)) by rw [F0, if_pos hc7_1, if_neg hc19_2, if_neg hc30_18, if_neg hc59_22, if_pos hc88_26]).symm.trans (own_law p1 p2)), N28⟩
          · obtain ⟨T30, X30, e30, st30⟩ := getS2 X0 hx hZ hown (host := "") (Or.inl (hw _ (List.mem_of_getElem? (i := 16) rfl))) Via.refl e0 S_AND_NOT (g := (mkF m 112 #[.val (.int p1), .val (.int p2), .val (.int (p1 &&& (3 : Int32))), .val (.int (0 : Int32)), .val (.int (1 : Int32)), .unset, .unset] [])) rfl (hb hby at_112)
            obtain ⟨cq31, kq31, q31a, q31b, q31c⟩ := isOf hZ e30 E_AND_NOT
            obtain ⟨_, _, ⟨T31, L31, k31, n31⟩, -, X31, ⟨Lc31, hQ31, l31, y31, z31⟩, st31⟩ := X30.virtualBack hx (y := (⟨"com/example/bitweave/bitweave/SetOperation", "keeps", "(ZZ)Z"⟩ : MethodName)) (z := (⟨"com/example/bitweave/bitweave/SetOperation", "keeps", "(ZZ)Z"⟩ : MethodName)) hown (mvT hZ (hw _ (List.mem_of_getElem? (i := 3) rfl))) (mvT hZ (hw _ (List.mem_of_getElem? (i := 4) rfl))) (notFace_of_selects (args := #[]) (mvT hZ (hw _ (List.mem_of_getElem? (i := 6) rfl)))) (mvT hZ (hw _ (List.mem_of_getElem? (i := 6) rfl))) (mvT hZ (hw _ (List.mem_of_getElem? (i := 5) rfl))) (by decide) (backOf (W := 0) (rm1 l Z a0 hw [] r_AND_NOT (0 : Int32) (1 : Int32) (1 : Int32) (0 : Int32) (0 : Int32) h0 n0 Z0 F_AND_NOT_0 F_AND_NOT_1 F_AND_NOT_2) hZ (hw _ (List.mem_of_getElem? (i := 7) rfl)) (hw _ (List.mem_of_getElem? (i := 1) rfl)) (by decide) (by decide)) q31a q31c (g := (mkF m 138 #[.val (.int p1), .val (.int p2), .val (.int (p1 &&& (3 : Int32))), .val (.int (0 : Int32)), .val (.int (1 : Int32)), .val (.ref r_AND_NOT), .val (.int (0 : Int32))] [(.int (1 : Int32)), (.int (0 : Int32)), (.ref r_AND_NOT)])) rfl (by rw [hml]; rfl) (Steps.refl _) (argsL := [(.int (0 : Int32)), (.int (1 : Int32))]) (rest := []) (lenOf pd_1 rfl) rfl (by show 2 * 0 + _ ≤ _; exact Nat.le_of_eq rfl) (hb hby at_138) (fun _ _ => ⟨rfl, e30, (by decide : 0 + 0 ≤ _), (by decide : 0 + 0 ≤ _)⟩)
            dsimp only [Pt.U, Pt.locs, Pt.cells, Pt.slots] at X31 l31 y31 z31 st31 hQ31
            subst l31 y31 z31
            obtain ⟨rfl, N31q, e31⟩ := hQ31
            have N31 := Fr.app N0 N31q
            obtain ⟨fs, hr, hrun, hended, hW, hsame⟩ := X31.leave (v := some (.int (if (F1 (0 : Int32) (1 : Int32) (1 : Int32) (0 : Int32) (0 : Int32)) = (0 : Int32) then (1 : Int32) else (0 : Int32)))) (fun h => by rw [Bd.returns] at h; cases h)
            refine ⟨_, _, pre0 _ ?_, hrun, hended, _, _, rfl, ?_, ⟨_, rfl⟩, hW, hsame.mono (by decide) (by decide)⟩
            · show Steps p.tables e below (s₁.setTop (mkF m 0 #[.val (.int p1), .val (.int p2), .unset, .unset, .unset, .unset, .unset] [])) _
              refine XS.iloadN X0.here hx rfl (hb hby at_0) rfl ?_
              show Steps p.tables e below (s₁.setTop (mkF m 1 #[.val (.int p1), .val (.int p2), .unset, .unset, .unset, .unset, .unset] [(.int p1)])) _
              refine XS.iconst X0.here hx rfl (hb hby at_1) ?_
              show Steps p.tables e below (s₁.setTop (mkF m 2 #[.val (.int p1), .val (.int p2), .unset, .unset, .unset, .unset, .unset] [(.int (3 : Int32)), (.int p1)])) _
              refine XS.iand X0.here hx rfl (hb hby at_2) rfl ?_
              show Steps p.tables e below (s₁.setTop (mkF m 3 #[.val (.int p1), .val (.int p2), .unset, .unset, .unset, .unset, .unset] [(.int (p1 &&& (3 : Int32)))])) _
              refine XS.istoreN X0.here hx rfl (hb hby at_3) rfl (l' := #[.val (.int p1), .val (.int p2), .val (.int (p1 &&& (3 : Int32))), .unset, .unset, .unset, .unset]) rfl ?_
              show Steps p.tables e below (s₁.setTop (mkF m 4 #[.val (.int p1), .val (.int p2), .val (.int (p1 &&& (3 : Int32))), .unset, .unset, .unset, .unset] [])) _
              refine XS.iloadN X0.here hx rfl (hb hby at_4) rfl ?_
              show Steps p.tables e below (s₁.setTop (mkF m 5 #[.val (.int p1), .val (.int p2), .val (.int (p1 &&& (3 : Int32))), .unset, .unset, .unset, .unset] [(.int p2)])) _
              refine XS.iconst X0.here hx rfl (hb hby at_5) ?_
              show Steps p.tables e below (s₁.setTop (mkF m 6 #[.val (.int p1), .val (.int p2), .val (.int (p1 &&& (3 : Int32))), .unset, .unset, .unset, .unset] [(.int (1 : Int32)), (.int p2)])) _
              refine XS.iand X0.here hx rfl (hb hby at_6) rfl ?_
              show Steps p.tables e below (s₁.setTop (mkF m 7 #[.val (.int p1), .val (.int p2), .val (.int (p1 &&& (3 : Int32))), .unset, .unset, .unset, .unset] [(.int (p2 &&& (1 : Int32)))])) _
              refine XS.ifYes X0.here hx rfl (pc0 := 7) (pc' := 14) rfl (hb hby at_7) rfl ((if0 _ _).trans (teq hc7_1).1) (by decide) (by decide) ?_
              show Steps p.tables e below (s₁.setTop (mkF m 14 #[.val (.int p1), .val (.int p2), .val (.int (p1 &&& (3 : Int32))), .unset, .unset, .unset, .unset] [])) _
              refine XS.iconst X0.here hx rfl (hb hby at_14) ?_
              show Steps p.tables e below (s₁.setTop (mkF m 15 #[.val (.int p1), .val (.int p2), .val (.int (p1 &&& (3 : Int32))), .unset, .unset, .unset, .unset] [(.int (0 : Int32))])) _
              refine XS.istoreN X0.here hx rfl (hb hby at_15) rfl (l' := #[.val (.int p1), .val (.int p2), .val (.int (p1 &&& (3 : Int32))), .val (.int (0 : Int32)), .unset, .unset, .unset]) rfl ?_
              show Steps p.tables e below (s₁.setTop (mkF m 16 #[.val (.int p1), .val (.int p2), .val (.int (p1 &&& (3 : Int32))), .val (.int (0 : Int32)), .unset, .unset, .unset] [])) _
              refine XS.iloadN X0.here hx rfl (hb hby at_16) rfl ?_
              show Steps p.tables e below (s₁.setTop (mkF m 17 #[.val (.int p1), .val (.int p2), .val (.int (p1 &&& (3 : Int32))), .val (.int (0 : Int32)), .unset, .unset, .unset] [(.int p2)])) _
              refine XS.iconst X0.here hx rfl (hb hby at_17) ?_
              show Steps p.tables e below (s₁.setTop (mkF m 18 #[.val (.int p1), .val (.int p2), .val (.int (p1 &&& (3 : Int32))), .val (.int (0 : Int32)), .unset, .unset, .unset] [(.int (2 : Int32)), (.int p2)])) _
              refine XS.iand X0.here hx rfl (hb hby at_18) rfl ?_
              show Steps p.tables e below (s₁.setTop (mkF m 19 #[.val (.int p1), .val (.int p2), .val (.int (p1 &&& (3 : Int32))), .val (.int (0 : Int32)), .unset, .unset, .unset] [(.int (p2 &&& (2 : Int32)))])) _
              refine XS.ifNo X0.here hx rfl (hb hby at_19) rfl ((if0 _ _).trans (feq hc19_2).1) ?_
              show Steps p.tables e below (s₁.setTop (mkF m 22 #[.val (.int p1), .val (.int p2), .val (.int (p1 &&& (3 : Int32))), .val (.int (0 : Int32)), .unset, .unset, .unset] [])) _
              refine XS.iconst X0.here hx rfl (hb hby at_22) ?_
              show Steps p.tables e below (s₁.setTop (mkF m 23 #[.val (.int p1), .val (.int p2), .val (.int (p1 &&& (3 : Int32))), .val (.int (0 : Int32)), .unset, .unset, .unset] [(.int (1 : Int32))])) _
              refine XS.goto X0.here hx rfl (pc0 := 23) (pc' := 27) rfl (hb hby at_23) (by decide) (by decide) ?_
              show Steps p.tables e below (s₁.setTop (mkF m 27 #[.val (.int p1), .val (.int p2), .val (.int (p1 &&& (3 : Int32))), .val (.int (0 : Int32)), .unset, .unset, .unset] [(.int (1 : Int32))])) _
              refine XS.istore X0.here hx rfl (hb hby at_27) rfl (l' := #[.val (.int p1), .val (.int p2), .val (.int (p1 &&& (3 : Int32))), .val (.int (0 : Int32)), .val (.int (1 : Int32)), .unset, .unset]) rfl ?_
              show Steps p.tables e below (s₁.setTop (mkF m 29 #[.val (.int p1), .val (.int p2), .val (.int (p1 &&& (3 : Int32))), .val (.int (0 : Int32)), .val (.int (1 : Int32)), .unset, .unset] [])) _
              refine XS.iloadN X0.here hx rfl (hb hby at_29) rfl ?_
              show Steps p.tables e below (s₁.setTop (mkF m 30 #[.val (.int p1), .val (.int p2), .val (.int (p1 &&& (3 : Int32))), .val (.int (0 : Int32)), .val (.int (1 : Int32)), .unset, .unset] [(.int (p1 &&& (3 : Int32)))])) _
              refine XS.ifYes X0.here hx rfl (pc0 := 30) (pc' := 57) rfl (hb hby at_30) rfl ((if0 _ _).trans (feq hc30_18).2) (by decide) (by decide) ?_
              show Steps p.tables e below (s₁.setTop (mkF m 57 #[.val (.int p1), .val (.int p2), .val (.int (p1 &&& (3 : Int32))), .val (.int (0 : Int32)), .val (.int (1 : Int32)), .unset, .unset] [])) _
              refine XS.iloadN X0.here hx rfl (hb hby at_57) rfl ?_
              show Steps p.tables e below (s₁.setTop (mkF m 58 #[.val (.int p1), .val (.int p2), .val (.int (p1 &&& (3 : Int32))), .val (.int (0 : Int32)), .val (.int (1 : Int32)), .unset, .unset] [(.int (p1 &&& (3 : Int32)))])) _
              refine XS.iconst X0.here hx rfl (hb hby at_58) ?_
              show Steps p.tables e below (s₁.setTop (mkF m 59 #[.val (.int p1), .val (.int p2), .val (.int (p1 &&& (3 : Int32))), .val (.int (0 : Int32)), .val (.int (1 : Int32)), .unset, .unset] [(.int (1 : Int32)), (.int (p1 &&& (3 : Int32)))])) _
              refine XS.icmpYes X0.here hx rfl (pc0 := 59) (pc' := 86) rfl (hb hby at_59) rfl (feq hc59_22).2 (by decide) (by decide) ?_
              show Steps p.tables e below (s₁.setTop (mkF m 86 #[.val (.int p1), .val (.int p2), .val (.int (p1 &&& (3 : Int32))), .val (.int (0 : Int32)), .val (.int (1 : Int32)), .unset, .unset] [])) _
              refine XS.iloadN X0.here hx rfl (hb hby at_86) rfl ?_
              show Steps p.tables e below (s₁.setTop (mkF m 87 #[.val (.int p1), .val (.int p2), .val (.int (p1 &&& (3 : Int32))), .val (.int (0 : Int32)), .val (.int (1 : Int32)), .unset, .unset] [(.int (p1 &&& (3 : Int32)))])) _
              refine XS.iconst X0.here hx rfl (hb hby at_87) ?_
              show Steps p.tables e below (s₁.setTop (mkF m 88 #[.val (.int p1), .val (.int p2), .val (.int (p1 &&& (3 : Int32))), .val (.int (0 : Int32)), .val (.int (1 : Int32)), .unset, .unset] [(.int (2 : Int32)), (.int (p1 &&& (3 : Int32)))])) _
              refine XS.icmpYes X0.here hx rfl (pc0 := 88) (pc' := 112) rfl (hb hby at_88) rfl (feq hc88_26).2 (by decide) (by decide) ?_
              show Steps p.tables e below (s₁.setTop (mkF m 112 #[.val (.int p1), .val (.int p2), .val (.int (p1 &&& (3 : Int32))), .val (.int (0 : Int32)), .val (.int (1 : Int32)), .unset, .unset] [])) _
              refine st30 _ ?_
              show Steps p.tables e below (T30.setTop (mkF m 115 #[.val (.int p1), .val (.int p2), .val (.int (p1 &&& (3 : Int32))), .val (.int (0 : Int32)), .val (.int (1 : Int32)), .unset, .unset] [(.ref r_AND_NOT)])) _
              refine XS.astore X30.here hx rfl (hb hby at_115) rfl rfl (l' := #[.val (.int p1), .val (.int p2), .val (.int (p1 &&& (3 : Int32))), .val (.int (0 : Int32)), .val (.int (1 : Int32)), .val (.ref r_AND_NOT), .unset]) rfl ?_
              show Steps p.tables e below (T30.setTop (mkF m 117 #[.val (.int p1), .val (.int p2), .val (.int (p1 &&& (3 : Int32))), .val (.int (0 : Int32)), .val (.int (1 : Int32)), .val (.ref r_AND_NOT), .unset] [])) _
              refine XS.iloadN X30.here hx rfl (hb hby at_117) rfl ?_
              show Steps p.tables e below (T30.setTop (mkF m 118 #[.val (.int p1), .val (.int p2), .val (.int (p1 &&& (3 : Int32))), .val (.int (0 : Int32)), .val (.int (1 : Int32)), .val (.ref r_AND_NOT), .unset] [(.int (0 : Int32))])) _
              refine XS.ifYes X30.here hx rfl (pc0 := 118) (pc' := 130) rfl (hb hby at_118) rfl ((if0 _ _).trans (teq (rfl : (0 : Int32) = (0 : Int32))).1) (by decide) (by decide) ?_
              show Steps p.tables e below (T30.setTop (mkF m 130 #[.val (.int p1), .val (.int p2), .val (.int (p1 &&& (3 : Int32))), .val (.int (0 : Int32)), .val (.int (1 : Int32)), .val (.ref r_AND_NOT), .unset] [])) _
              refine XS.iconst X30.here hx rfl (hb hby at_130) ?_
              show Steps p.tables e below (T30.setTop (mkF m 131 #[.val (.int p1), .val (.int p2), .val (.int (p1 &&& (3 : Int32))), .val (.int (0 : Int32)), .val (.int (1 : Int32)), .val (.ref r_AND_NOT), .unset] [(.int (0 : Int32))])) _
              refine XS.istore X30.here hx rfl (hb hby at_131) rfl (l' := #[.val (.int p1), .val (.int p2), .val (.int (p1 &&& (3 : Int32))), .val (.int (0 : Int32)), .val (.int (1 : Int32)), .val (.ref r_AND_NOT), .val (.int (0 : Int32))]) rfl ?_
              show Steps p.tables e below (T30.setTop (mkF m 133 #[.val (.int p1), .val (.int p2), .val (.int (p1 &&& (3 : Int32))), .val (.int (0 : Int32)), .val (.int (1 : Int32)), .val (.ref r_AND_NOT), .val (.int (0 : Int32))] [])) _
              refine XS.aload X30.here hx rfl (hb hby at_133) rfl rfl ?_
              show Steps p.tables e below (T30.setTop (mkF m 135 #[.val (.int p1), .val (.int p2), .val (.int (p1 &&& (3 : Int32))), .val (.int (0 : Int32)), .val (.int (1 : Int32)), .val (.ref r_AND_NOT), .val (.int (0 : Int32))] [(.ref r_AND_NOT)])) _
              refine XS.iloadN X30.here hx rfl (hb hby at_135) rfl ?_
              show Steps p.tables e below (T30.setTop (mkF m 136 #[.val (.int p1), .val (.int p2), .val (.int (p1 &&& (3 : Int32))), .val (.int (0 : Int32)), .val (.int (1 : Int32)), .val (.ref r_AND_NOT), .val (.int (0 : Int32))] [(.int (0 : Int32)), (.ref r_AND_NOT)])) _
              refine XS.iload X30.here hx rfl (hb hby at_136) rfl ?_
              show Steps p.tables e below (T30.setTop (mkF m 138 #[.val (.int p1), .val (.int p2), .val (.int (p1 &&& (3 : Int32))), .val (.int (0 : Int32)), .val (.int (1 : Int32)), .val (.ref r_AND_NOT), .val (.int (0 : Int32))] [(.int (1 : Int32)), (.int (0 : Int32)), (.ref r_AND_NOT)])) _
              refine st31.trans ?_
              show Steps p.tables e below (T31.setTop (mkF m 141 #[.val (.int p1), .val (.int p2), .val (.int (p1 &&& (3 : Int32))), .val (.int (0 : Int32)), .val (.int (1 : Int32)), .val (.ref r_AND_NOT), .val (.int (0 : Int32))] [(.int (F1 (0 : Int32) (1 : Int32) (1 : Int32) (0 : Int32) (0 : Int32)))])) _
              refine XS.iload X31.here hx rfl (hb hby at_141) rfl ?_
              show Steps p.tables e below (T31.setTop (mkF m 143 #[.val (.int p1), .val (.int p2), .val (.int (p1 &&& (3 : Int32))), .val (.int (0 : Int32)), .val (.int (1 : Int32)), .val (.ref r_AND_NOT), .val (.int (0 : Int32))] [(.int (0 : Int32)), (.int (F1 (0 : Int32) (1 : Int32) (1 : Int32) (0 : Int32) (0 : Int32)))])) _
              by_cases hc143_32 : (F1 (0 : Int32) (1 : Int32) (1 : Int32) (0 : Int32) (0 : Int32)) = (0 : Int32)
              · refine XS.icmpNo X31.here hx rfl (hb hby at_143) rfl (teq hc143_32).2 ?_
                show Steps p.tables e below (T31.setTop (mkF m 146 #[.val (.int p1), .val (.int p2), .val (.int (p1 &&& (3 : Int32))), .val (.int (0 : Int32)), .val (.int (1 : Int32)), .val (.ref r_AND_NOT), .val (.int (0 : Int32))] [])) _
                refine XS.iconst X31.here hx rfl (hb hby at_146) ?_
                show Steps p.tables e below (T31.setTop (mkF m 147 #[.val (.int p1), .val (.int p2), .val (.int (p1 &&& (3 : Int32))), .val (.int (0 : Int32)), .val (.int (1 : Int32)), .val (.ref r_AND_NOT), .val (.int (0 : Int32))] [(.int (1 : Int32))])) _
                refine XS.goto X31.here hx rfl (pc0 := 147) (pc' := 151) rfl (hb hby at_147) (by decide) (by decide) ?_
                show Steps p.tables e below (T31.setTop (mkF m 151 #[.val (.int p1), .val (.int p2), .val (.int (p1 &&& (3 : Int32))), .val (.int (0 : Int32)), .val (.int (1 : Int32)), .val (.ref r_AND_NOT), .val (.int (0 : Int32))] [(.int (1 : Int32))])) _
                rw [if_pos hc143_32] at hr
                exact retN X31 hx (t := .boolean) Bd.returns (by simp) (hb hby at_151) hr
              · refine XS.icmpYes X31.here hx rfl (pc0 := 143) (pc' := 150) rfl (hb hby at_143) rfl (feq hc143_32).2 (by decide) (by decide) ?_
                show Steps p.tables e below (T31.setTop (mkF m 150 #[.val (.int p1), .val (.int p2), .val (.int (p1 &&& (3 : Int32))), .val (.int (0 : Int32)), .val (.int (1 : Int32)), .val (.ref r_AND_NOT), .val (.int (0 : Int32))] [])) _
                refine XS.iconst X31.here hx rfl (hb hby at_150) ?_
                show Steps p.tables e below (T31.setTop (mkF m 151 #[.val (.int p1), .val (.int p2), .val (.int (p1 &&& (3 : Int32))), .val (.int (0 : Int32)), .val (.int (1 : Int32)), .val (.ref r_AND_NOT), .val (.int (0 : Int32))] [(.int (0 : Int32))])) _
                rw [if_neg hc143_32] at hr
                exact retN X31 hx (t := .boolean) Bd.returns (by simp) (hb hby at_151) hr
            · show Q0 Z p1 p2 r_AND r_OR r_XOR r_AND_NOT h0 n0 _ T31.heap _
              rw [e31]
              exact ⟨congrArg (fun z => some (Value.int z)) ((show F0 p1 p2 = (if (F1 (0 : Int32) (1 : Int32) (1 : Int32) (0 : Int32) (0 : Int32)) = (0 : Int32) then (1 : Int32) else (0 : Int32)) by rw [F0, if_pos hc7_1, if_neg hc19_2, if_neg hc30_18, if_neg hc59_22, if_neg hc88_26]).symm.trans (own_law p1 p2)), N31⟩
  · by_cases hc19_33 : (p2 &&& (2 : Int32)) = (0 : Int32)
    · by_cases hc30_34 : (p1 &&& (3 : Int32)) = (0 : Int32)
      · obtain ⟨T35, X35, e35, st35⟩ := getS2 X0 hx hZ hown (host := "") (Or.inl (hw _ (List.mem_of_getElem? (i := 0) rfl))) Via.refl e0 S_AND (g := (mkF m 33 #[.val (.int p1), .val (.int p2), .val (.int (p1 &&& (3 : Int32))), .val (.int (1 : Int32)), .val (.int (0 : Int32)), .unset, .unset] [])) rfl (hb hby at_33)
        obtain ⟨cq36, kq36, q36a, q36b, q36c⟩ := isOf hZ e35 E_AND
        obtain ⟨_, _, ⟨T36, L36, k36, n36⟩, -, X36, ⟨Lc36, hQ36, l36, y36, z36⟩, st36⟩ := X35.virtualBack hx (y := (⟨"com/example/bitweave/bitweave/SetOperation", "keeps", "(ZZ)Z"⟩ : MethodName)) (z := (⟨"com/example/bitweave/bitweave/SetOperation", "keeps", "(ZZ)Z"⟩ : MethodName)) hown (mvT hZ (hw _ (List.mem_of_getElem? (i := 3) rfl))) (mvT hZ (hw _ (List.mem_of_getElem? (i := 4) rfl))) (notFace_of_selects (args := #[]) (mvT hZ (hw _ (List.mem_of_getElem? (i := 6) rfl)))) (mvT hZ (hw _ (List.mem_of_getElem? (i := 6) rfl))) (mvT hZ (hw _ (List.mem_of_getElem? (i := 5) rfl))) (by decide) (backOf (W := 0) (rm1 l Z a0 hw [] r_AND (1 : Int32) (0 : Int32) (0 : Int32) (0 : Int32) (1 : Int32) h0 n0 Z0 F_AND_0 F_AND_1 F_AND_2) hZ (hw _ (List.mem_of_getElem? (i := 7) rfl)) (hw _ (List.mem_of_getElem? (i := 1) rfl)) (by decide) (by decide)) q36a q36c (g := (mkF m 138 #[.val (.int p1), .val (.int p2), .val (.int (p1 &&& (3 : Int32))), .val (.int (1 : Int32)), .val (.int (0 : Int32)), .val (.ref r_AND), .val (.int (0 : Int32))] [(.int (0 : Int32)), (.int (1 : Int32)), (.ref r_AND)])) rfl (by rw [hml]; rfl) (Steps.refl _) (argsL := [(.int (1 : Int32)), (.int (0 : Int32))]) (rest := []) (lenOf pd_1 rfl) rfl (by show 2 * 0 + _ ≤ _; exact Nat.le_of_eq rfl) (hb hby at_138) (fun _ _ => ⟨rfl, e35, (by decide : 0 + 0 ≤ _), (by decide : 0 + 0 ≤ _)⟩)
        dsimp only [Pt.U, Pt.locs, Pt.cells, Pt.slots] at X36 l36 y36 z36 st36 hQ36
        subst l36 y36 z36
        obtain ⟨rfl, N36q, e36⟩ := hQ36
        have N36 := Fr.app N0 N36q
        obtain ⟨fs, hr, hrun, hended, hW, hsame⟩ := X36.leave (v := some (.int (if (F1 (1 : Int32) (0 : Int32) (0 : Int32) (0 : Int32) (1 : Int32)) = (0 : Int32) then (1 : Int32) else (0 : Int32)))) (fun h => by rw [Bd.returns] at h; cases h)
        refine ⟨_, _, pre0 _ ?_, hrun, hended, _, _, rfl, ?_, ⟨_, rfl⟩, hW, hsame.mono (by decide) (by decide)⟩
        · show Steps p.tables e below (s₁.setTop (mkF m 0 #[.val (.int p1), .val (.int p2), .unset, .unset, .unset, .unset, .unset] [])) _
          refine XS.iloadN X0.here hx rfl (hb hby at_0) rfl ?_
          show Steps p.tables e below (s₁.setTop (mkF m 1 #[.val (.int p1), .val (.int p2), .unset, .unset, .unset, .unset, .unset] [(.int p1)])) _
          refine XS.iconst X0.here hx rfl (hb hby at_1) ?_
          show Steps p.tables e below (s₁.setTop (mkF m 2 #[.val (.int p1), .val (.int p2), .unset, .unset, .unset, .unset, .unset] [(.int (3 : Int32)), (.int p1)])) _
          refine XS.iand X0.here hx rfl (hb hby at_2) rfl ?_
          show Steps p.tables e below (s₁.setTop (mkF m 3 #[.val (.int p1), .val (.int p2), .unset, .unset, .unset, .unset, .unset] [(.int (p1 &&& (3 : Int32)))])) _
          refine XS.istoreN X0.here hx rfl (hb hby at_3) rfl (l' := #[.val (.int p1), .val (.int p2), .val (.int (p1 &&& (3 : Int32))), .unset, .unset, .unset, .unset]) rfl ?_
          show Steps p.tables e below (s₁.setTop (mkF m 4 #[.val (.int p1), .val (.int p2), .val (.int (p1 &&& (3 : Int32))), .unset, .unset, .unset, .unset] [])) _
          refine XS.iloadN X0.here hx rfl (hb hby at_4) rfl ?_
          show Steps p.tables e below (s₁.setTop (mkF m 5 #[.val (.int p1), .val (.int p2), .val (.int (p1 &&& (3 : Int32))), .unset, .unset, .unset, .unset] [(.int p2)])) _
          refine XS.iconst X0.here hx rfl (hb hby at_5) ?_
          show Steps p.tables e below (s₁.setTop (mkF m 6 #[.val (.int p1), .val (.int p2), .val (.int (p1 &&& (3 : Int32))), .unset, .unset, .unset, .unset] [(.int (1 : Int32)), (.int p2)])) _
          refine XS.iand X0.here hx rfl (hb hby at_6) rfl ?_
          show Steps p.tables e below (s₁.setTop (mkF m 7 #[.val (.int p1), .val (.int p2), .val (.int (p1 &&& (3 : Int32))), .unset, .unset, .unset, .unset] [(.int (p2 &&& (1 : Int32)))])) _
          refine XS.ifNo X0.here hx rfl (hb hby at_7) rfl ((if0 _ _).trans (feq hc7_1).1) ?_
          show Steps p.tables e below (s₁.setTop (mkF m 10 #[.val (.int p1), .val (.int p2), .val (.int (p1 &&& (3 : Int32))), .unset, .unset, .unset, .unset] [])) _
          refine XS.iconst X0.here hx rfl (hb hby at_10) ?_
          show Steps p.tables e below (s₁.setTop (mkF m 11 #[.val (.int p1), .val (.int p2), .val (.int (p1 &&& (3 : Int32))), .unset, .unset, .unset, .unset] [(.int (1 : Int32))])) _
          refine XS.goto X0.here hx rfl (pc0 := 11) (pc' := 15) rfl (hb hby at_11) (by decide) (by decide) ?_
          show Steps p.tables e below (s₁.setTop (mkF m 15 #[.val (.int p1), .val (.int p2), .val (.int (p1 &&& (3 : Int32))), .unset, .unset, .unset, .unset] [(.int (1 : Int32))])) _
          refine XS.istoreN X0.here hx rfl (hb hby at_15) rfl (l' := #[.val (.int p1), .val (.int p2), .val (.int (p1 &&& (3 : Int32))), .val (.int (1 : Int32)), .unset, .unset, .unset]) rfl ?_
          show Steps p.tables e below (s₁.setTop (mkF m 16 #[.val (.int p1), .val (.int p2), .val (.int (p1 &&& (3 : Int32))), .val (.int (1 : Int32)), .unset, .unset, .unset] [])) _
          refine XS.iloadN X0.here hx rfl (hb hby at_16) rfl ?_
          show Steps p.tables e below (s₁.setTop (mkF m 17 #[.val (.int p1), .val (.int p2), .val (.int (p1 &&& (3 : Int32))), .val (.int (1 : Int32)), .unset, .unset, .unset] [(.int p2)])) _
          refine XS.iconst X0.here hx rfl (hb hby at_17) ?_
          show Steps p.tables e below (s₁.setTop (mkF m 18 #[.val (.int p1), .val (.int p2), .val (.int (p1 &&& (3 : Int32))), .val (.int (1 : Int32)), .unset, .unset, .unset] [(.int (2 : Int32)), (.int p2)])) _
          refine XS.iand X0.here hx rfl (hb hby at_18) rfl ?_
          show Steps p.tables e below (s₁.setTop (mkF m 19 #[.val (.int p1), .val (.int p2), .val (.int (p1 &&& (3 : Int32))), .val (.int (1 : Int32)), .unset, .unset, .unset] [(.int (p2 &&& (2 : Int32)))])) _
          refine XS.ifYes X0.here hx rfl (pc0 := 19) (pc' := 26) rfl (hb hby at_19) rfl ((if0 _ _).trans (teq hc19_33).1) (by decide) (by decide) ?_
          show Steps p.tables e below (s₁.setTop (mkF m 26 #[.val (.int p1), .val (.int p2), .val (.int (p1 &&& (3 : Int32))), .val (.int (1 : Int32)), .unset, .unset, .unset] [])) _
          refine XS.iconst X0.here hx rfl (hb hby at_26) ?_
          show Steps p.tables e below (s₁.setTop (mkF m 27 #[.val (.int p1), .val (.int p2), .val (.int (p1 &&& (3 : Int32))), .val (.int (1 : Int32)), .unset, .unset, .unset] [(.int (0 : Int32))])) _
          refine XS.istore X0.here hx rfl (hb hby at_27) rfl (l' := #[.val (.int p1), .val (.int p2), .val (.int (p1 &&& (3 : Int32))), .val (.int (1 : Int32)), .val (.int (0 : Int32)), .unset, .unset]) rfl ?_
          show Steps p.tables e below (s₁.setTop (mkF m 29 #[.val (.int p1), .val (.int p2), .val (.int (p1 &&& (3 : Int32))), .val (.int (1 : Int32)), .val (.int (0 : Int32)), .unset, .unset] [])) _
          refine XS.iloadN X0.here hx rfl (hb hby at_29) rfl ?_
          show Steps p.tables e below (s₁.setTop (mkF m 30 #[.val (.int p1), .val (.int p2), .val (.int (p1 &&& (3 : Int32))), .val (.int (1 : Int32)), .val (.int (0 : Int32)), .unset, .unset] [(.int (p1 &&& (3 : Int32)))])) _
          refine XS.ifNo X0.here hx rfl (hb hby at_30) rfl ((if0 _ _).trans (teq hc30_34).2) ?_
          show Steps p.tables e below (s₁.setTop (mkF m 33 #[.val (.int p1), .val (.int p2), .val (.int (p1 &&& (3 : Int32))), .val (.int (1 : Int32)), .val (.int (0 : Int32)), .unset, .unset] [])) _
          refine st35 _ ?_
          show Steps p.tables e below (T35.setTop (mkF m 36 #[.val (.int p1), .val (.int p2), .val (.int (p1 &&& (3 : Int32))), .val (.int (1 : Int32)), .val (.int (0 : Int32)), .unset, .unset] [(.ref r_AND)])) _
          refine XS.astore X35.here hx rfl (hb hby at_36) rfl rfl (l' := #[.val (.int p1), .val (.int p2), .val (.int (p1 &&& (3 : Int32))), .val (.int (1 : Int32)), .val (.int (0 : Int32)), .val (.ref r_AND), .unset]) rfl ?_
          show Steps p.tables e below (T35.setTop (mkF m 38 #[.val (.int p1), .val (.int p2), .val (.int (p1 &&& (3 : Int32))), .val (.int (1 : Int32)), .val (.int (0 : Int32)), .val (.ref r_AND), .unset] [])) _
          refine XS.iloadN X35.here hx rfl (hb hby at_38) rfl ?_
          show Steps p.tables e below (T35.setTop (mkF m 39 #[.val (.int p1), .val (.int p2), .val (.int (p1 &&& (3 : Int32))), .val (.int (1 : Int32)), .val (.int (0 : Int32)), .val (.ref r_AND), .unset] [(.int (1 : Int32))])) _
          refine XS.ifNo X35.here hx rfl (hb hby at_39) rfl ((if0 _ _).trans (feq (by decide : ¬ ((1 : Int32) = (0 : Int32)))).1) ?_
          show Steps p.tables e below (T35.setTop (mkF m 42 #[.val (.int p1), .val (.int p2), .val (.int (p1 &&& (3 : Int32))), .val (.int (1 : Int32)), .val (.int (0 : Int32)), .val (.ref r_AND), .unset] [])) _
          refine XS.iload X35.here hx rfl (hb hby at_42) rfl ?_
          show Steps p.tables e below (T35.setTop (mkF m 44 #[.val (.int p1), .val (.int p2), .val (.int (p1 &&& (3 : Int32))), .val (.int (1 : Int32)), .val (.int (0 : Int32)), .val (.ref r_AND), .unset] [(.int (0 : Int32))])) _
          refine XS.ifYes X35.here hx rfl (pc0 := 44) (pc' := 51) rfl (hb hby at_44) rfl ((if0 _ _).trans (teq (rfl : (0 : Int32) = (0 : Int32))).1) (by decide) (by decide) ?_
          show Steps p.tables e below (T35.setTop (mkF m 51 #[.val (.int p1), .val (.int p2), .val (.int (p1 &&& (3 : Int32))), .val (.int (1 : Int32)), .val (.int (0 : Int32)), .val (.ref r_AND), .unset] [])) _
          refine XS.iconst X35.here hx rfl (hb hby at_51) ?_
          show Steps p.tables e below (T35.setTop (mkF m 52 #[.val (.int p1), .val (.int p2), .val (.int (p1 &&& (3 : Int32))), .val (.int (1 : Int32)), .val (.int (0 : Int32)), .val (.ref r_AND), .unset] [(.int (0 : Int32))])) _
          refine XS.istore X35.here hx rfl (hb hby at_52) rfl (l' := #[.val (.int p1), .val (.int p2), .val (.int (p1 &&& (3 : Int32))), .val (.int (1 : Int32)), .val (.int (0 : Int32)), .val (.ref r_AND), .val (.int (0 : Int32))]) rfl ?_
          show Steps p.tables e below (T35.setTop (mkF m 54 #[.val (.int p1), .val (.int p2), .val (.int (p1 &&& (3 : Int32))), .val (.int (1 : Int32)), .val (.int (0 : Int32)), .val (.ref r_AND), .val (.int (0 : Int32))] [])) _
          refine XS.goto X35.here hx rfl (pc0 := 54) (pc' := 133) rfl (hb hby at_54) (by decide) (by decide) ?_
          show Steps p.tables e below (T35.setTop (mkF m 133 #[.val (.int p1), .val (.int p2), .val (.int (p1 &&& (3 : Int32))), .val (.int (1 : Int32)), .val (.int (0 : Int32)), .val (.ref r_AND), .val (.int (0 : Int32))] [])) _
          refine XS.aload X35.here hx rfl (hb hby at_133) rfl rfl ?_
          show Steps p.tables e below (T35.setTop (mkF m 135 #[.val (.int p1), .val (.int p2), .val (.int (p1 &&& (3 : Int32))), .val (.int (1 : Int32)), .val (.int (0 : Int32)), .val (.ref r_AND), .val (.int (0 : Int32))] [(.ref r_AND)])) _
          refine XS.iloadN X35.here hx rfl (hb hby at_135) rfl ?_
          show Steps p.tables e below (T35.setTop (mkF m 136 #[.val (.int p1), .val (.int p2), .val (.int (p1 &&& (3 : Int32))), .val (.int (1 : Int32)), .val (.int (0 : Int32)), .val (.ref r_AND), .val (.int (0 : Int32))] [(.int (1 : Int32)), (.ref r_AND)])) _
          refine XS.iload X35.here hx rfl (hb hby at_136) rfl ?_
          show Steps p.tables e below (T35.setTop (mkF m 138 #[.val (.int p1), .val (.int p2), .val (.int (p1 &&& (3 : Int32))), .val (.int (1 : Int32)), .val (.int (0 : Int32)), .val (.ref r_AND), .val (.int (0 : Int32))] [(.int (0 : Int32)), (.int (1 : Int32)), (.ref r_AND)])) _
          refine st36.trans ?_
          show Steps p.tables e below (T36.setTop (mkF m 141 #[.val (.int p1), .val (.int p2), .val (.int (p1 &&& (3 : Int32))), .val (.int (1 : Int32)), .val (.int (0 : Int32)), .val (.ref r_AND), .val (.int (0 : Int32))] [(.int (F1 (1 : Int32) (0 : Int32) (0 : Int32) (0 : Int32) (1 : Int32)))])) _
          refine XS.iload X36.here hx rfl (hb hby at_141) rfl ?_
          show Steps p.tables e below (T36.setTop (mkF m 143 #[.val (.int p1), .val (.int p2), .val (.int (p1 &&& (3 : Int32))), .val (.int (1 : Int32)), .val (.int (0 : Int32)), .val (.ref r_AND), .val (.int (0 : Int32))] [(.int (0 : Int32)), (.int (F1 (1 : Int32) (0 : Int32) (0 : Int32) (0 : Int32) (1 : Int32)))])) _
          by_cases hc143_37 : (F1 (1 : Int32) (0 : Int32) (0 : Int32) (0 : Int32) (1 : Int32)) = (0 : Int32)
          · refine XS.icmpNo X36.here hx rfl (hb hby at_143) rfl (teq hc143_37).2 ?_
            show Steps p.tables e below (T36.setTop (mkF m 146 #[.val (.int p1), .val (.int p2), .val (.int (p1 &&& (3 : Int32))), .val (.int (1 : Int32)), .val (.int (0 : Int32)), .val (.ref r_AND), .val (.int (0 : Int32))] [])) _
            refine XS.iconst X36.here hx rfl (hb hby at_146) ?_
            show Steps p.tables e below (T36.setTop (mkF m 147 #[.val (.int p1), .val (.int p2), .val (.int (p1 &&& (3 : Int32))), .val (.int (1 : Int32)), .val (.int (0 : Int32)), .val (.ref r_AND), .val (.int (0 : Int32))] [(.int (1 : Int32))])) _
            refine XS.goto X36.here hx rfl (pc0 := 147) (pc' := 151) rfl (hb hby at_147) (by decide) (by decide) ?_
            show Steps p.tables e below (T36.setTop (mkF m 151 #[.val (.int p1), .val (.int p2), .val (.int (p1 &&& (3 : Int32))), .val (.int (1 : Int32)), .val (.int (0 : Int32)), .val (.ref r_AND), .val (.int (0 : Int32))] [(.int (1 : Int32))])) _
            rw [if_pos hc143_37] at hr
            exact retN X36 hx (t := .boolean) Bd.returns (by simp) (hb hby at_151) hr
          · refine XS.icmpYes X36.here hx rfl (pc0 := 143) (pc' := 150) rfl (hb hby at_143) rfl (feq hc143_37).2 (by decide) (by decide) ?_
            show Steps p.tables e below (T36.setTop (mkF m 150 #[.val (.int p1), .val (.int p2), .val (.int (p1 &&& (3 : Int32))), .val (.int (1 : Int32)), .val (.int (0 : Int32)), .val (.ref r_AND), .val (.int (0 : Int32))] [])) _
            refine XS.iconst X36.here hx rfl (hb hby at_150) ?_
            show Steps p.tables e below (T36.setTop (mkF m 151 #[.val (.int p1), .val (.int p2), .val (.int (p1 &&& (3 : Int32))), .val (.int (1 : Int32)), .val (.int (0 : Int32)), .val (.ref r_AND), .val (.int (0 : Int32))] [(.int (0 : Int32))])) _
            rw [if_neg hc143_37] at hr
            exact retN X36 hx (t := .boolean) Bd.returns (by simp) (hb hby at_151) hr
        · show Q0 Z p1 p2 r_AND r_OR r_XOR r_AND_NOT h0 n0 _ T36.heap _
          rw [e36]
          exact ⟨congrArg (fun z => some (Value.int z)) ((show F0 p1 p2 = (if (F1 (1 : Int32) (0 : Int32) (0 : Int32) (0 : Int32) (1 : Int32)) = (0 : Int32) then (1 : Int32) else (0 : Int32)) by rw [F0, if_neg hc7_1, if_pos hc19_33, if_pos hc30_34]).symm.trans (own_law p1 p2)), N36⟩
      · by_cases hc59_38 : (p1 &&& (3 : Int32)) = (1 : Int32)
        · obtain ⟨T39, X39, e39, st39⟩ := getS2 X0 hx hZ hown (host := "") (Or.inl (hw _ (List.mem_of_getElem? (i := 14) rfl))) Via.refl e0 S_OR (g := (mkF m 62 #[.val (.int p1), .val (.int p2), .val (.int (p1 &&& (3 : Int32))), .val (.int (1 : Int32)), .val (.int (0 : Int32)), .unset, .unset] [])) rfl (hb hby at_62)
          obtain ⟨cq40, kq40, q40a, q40b, q40c⟩ := isOf hZ e39 E_OR
          obtain ⟨_, _, ⟨T40, L40, k40, n40⟩, -, X40, ⟨Lc40, hQ40, l40, y40, z40⟩, st40⟩ := X39.virtualBack hx (y := (⟨"com/example/bitweave/bitweave/SetOperation", "keeps", "(ZZ)Z"⟩ : MethodName)) (z := (⟨"com/example/bitweave/bitweave/SetOperation", "keeps", "(ZZ)Z"⟩ : MethodName)) hown (mvT hZ (hw _ (List.mem_of_getElem? (i := 3) rfl))) (mvT hZ (hw _ (List.mem_of_getElem? (i := 4) rfl))) (notFace_of_selects (args := #[]) (mvT hZ (hw _ (List.mem_of_getElem? (i := 6) rfl)))) (mvT hZ (hw _ (List.mem_of_getElem? (i := 6) rfl))) (mvT hZ (hw _ (List.mem_of_getElem? (i := 5) rfl))) (by decide) (backOf (W := 0) (rm1 l Z a0 hw [] r_OR (1 : Int32) (0 : Int32) (1 : Int32) (1 : Int32) (1 : Int32) h0 n0 Z0 F_OR_0 F_OR_1 F_OR_2) hZ (hw _ (List.mem_of_getElem? (i := 7) rfl)) (hw _ (List.mem_of_getElem? (i := 1) rfl)) (by decide) (by decide)) q40a q40c (g := (mkF m 138 #[.val (.int p1), .val (.int p2), .val (.int (p1 &&& (3 : Int32))), .val (.int (1 : Int32)), .val (.int (0 : Int32)), .val (.ref r_OR), .val (.int (1 : Int32))] [(.int (0 : Int32)), (.int (1 : Int32)), (.ref r_OR)])) rfl (by rw [hml]; rfl) (Steps.refl _) (argsL := [(.int (1 : Int32)), (.int (0 : Int32))]) (rest := []) (lenOf pd_1 rfl) rfl (by show 2 * 0 + _ ≤ _; exact Nat.le_of_eq rfl) (hb hby at_138) (fun _ _ => ⟨rfl, e39, (by decide : 0 + 0 ≤ _), (by decide : 0 + 0 ≤ _)⟩)
          dsimp only [Pt.U, Pt.locs, Pt.cells, Pt.slots] at X40 l40 y40 z40 st40 hQ40
          subst l40 y40 z40
          obtain ⟨rfl, N40q, e40⟩ := hQ40
          have N40 := Fr.app N0 N40q
          obtain ⟨fs, hr, hrun, hended, hW, hsame⟩ := X40.leave (v := some (.int (if (F1 (1 : Int32) (0 : Int32) (1 : Int32) (1 : Int32) (1 : Int32)) = (1 : Int32) then (1 : Int32) else (0 : Int32)))) (fun h => by rw [Bd.returns] at h; cases h)
          refine ⟨_, _, pre0 _ ?_, hrun, hended, _, _, rfl, ?_, ⟨_, rfl⟩, hW, hsame.mono (by decide) (by decide)⟩
          · show Steps p.tables e below (s₁.setTop (mkF m 0 #[.val (.int p1), .val (.int p2), .unset, .unset, .unset, .unset, .unset] [])) _
            refine XS.iloadN X0.here hx rfl (hb hby at_0) rfl ?_
            show Steps p.tables e below (s₁.setTop (mkF m 1 #[.val (.int p1), .val (.int p2), .unset, .unset, .unset, .unset, .unset] [(.int p1)])) _
            refine XS.iconst X0.here hx rfl (hb hby at_1) ?_
            show Steps p.tables e below (s₁.setTop (mkF m 2 #[.val (.int p1), .val (.int p2), .unset, .unset, .unset, .unset, .unset] [(.int (3 : Int32)), (.int p1)])) _
            refine XS.iand X0.here hx rfl (hb hby at_2) rfl ?_
            show Steps p.tables e below (s₁.setTop (mkF m 3 #[.val (.int p1), .val (.int p2), .unset, .unset, .unset, .unset, .unset] [(.int (p1 &&& (3 : Int32)))])) _
            refine XS.istoreN X0.here hx rfl (hb hby at_3) rfl (l' := #[.val (.int p1), .val (.int p2), .val (.int (p1 &&& (3 : Int32))), .unset, .unset, .unset, .unset]) rfl ?_
            show Steps p.tables e below (s₁.setTop (mkF m 4 #[.val (.int p1), .val (.int p2), .val (.int (p1 &&& (3 : Int32))), .unset, .unset, .unset, .unset] [])) _
            refine XS.iloadN X0.here hx rfl (hb hby at_4) rfl ?_
            show Steps p.tables e below (s₁.setTop (mkF m 5 #[.val (.int p1), .val (.int p2), .val (.int (p1 &&& (3 : Int32))), .unset, .unset, .unset, .unset] [(.int p2)])) _
            refine XS.iconst X0.here hx rfl (hb hby at_5) ?_
            show Steps p.tables e below (s₁.setTop (mkF m 6 #[.val (.int p1), .val (.int p2), .val (.int (p1 &&& (3 : Int32))), .unset, .unset, .unset, .unset] [(.int (1 : Int32)), (.int p2)])) _
            refine XS.iand X0.here hx rfl (hb hby at_6) rfl ?_
            show Steps p.tables e below (s₁.setTop (mkF m 7 #[.val (.int p1), .val (.int p2), .val (.int (p1 &&& (3 : Int32))), .unset, .unset, .unset, .unset] [(.int (p2 &&& (1 : Int32)))])) _
            refine XS.ifNo X0.here hx rfl (hb hby at_7) rfl ((if0 _ _).trans (feq hc7_1).1) ?_
            show Steps p.tables e below (s₁.setTop (mkF m 10 #[.val (.int p1), .val (.int p2), .val (.int (p1 &&& (3 : Int32))), .unset, .unset, .unset, .unset] [])) _
            refine XS.iconst X0.here hx rfl (hb hby at_10) ?_
            show Steps p.tables e below (s₁.setTop (mkF m 11 #[.val (.int p1), .val (.int p2), .val (.int (p1 &&& (3 : Int32))), .unset, .unset, .unset, .unset] [(.int (1 : Int32))])) _
            refine XS.goto X0.here hx rfl (pc0 := 11) (pc' := 15) rfl (hb hby at_11) (by decide) (by decide) ?_
            show Steps p.tables e below (s₁.setTop (mkF m 15 #[.val (.int p1), .val (.int p2), .val (.int (p1 &&& (3 : Int32))), .unset, .unset, .unset, .unset] [(.int (1 : Int32))])) _
            refine XS.istoreN X0.here hx rfl (hb hby at_15) rfl (l' := #[.val (.int p1), .val (.int p2), .val (.int (p1 &&& (3 : Int32))), .val (.int (1 : Int32)), .unset, .unset, .unset]) rfl ?_
            show Steps p.tables e below (s₁.setTop (mkF m 16 #[.val (.int p1), .val (.int p2), .val (.int (p1 &&& (3 : Int32))), .val (.int (1 : Int32)), .unset, .unset, .unset] [])) _
            refine XS.iloadN X0.here hx rfl (hb hby at_16) rfl ?_
            show Steps p.tables e below (s₁.setTop (mkF m 17 #[.val (.int p1), .val (.int p2), .val (.int (p1 &&& (3 : Int32))), .val (.int (1 : Int32)), .unset, .unset, .unset] [(.int p2)])) _
            refine XS.iconst X0.here hx rfl (hb hby at_17) ?_
            show Steps p.tables e below (s₁.setTop (mkF m 18 #[.val (.int p1), .val (.int p2), .val (.int (p1 &&& (3 : Int32))), .val (.int (1 : Int32)), .unset, .unset, .unset] [(.int (2 : Int32)), (.int p2)])) _
            refine XS.iand X0.here hx rfl (hb hby at_18) rfl ?_
            show Steps p.tables e below (s₁.setTop (mkF m 19 #[.val (.int p1), .val (.int p2), .val (.int (p1 &&& (3 : Int32))), .val (.int (1 : Int32)), .unset, .unset, .unset] [(.int (p2 &&& (2 : Int32)))])) _
            refine XS.ifYes X0.here hx rfl (pc0 := 19) (pc' := 26) rfl (hb hby at_19) rfl ((if0 _ _).trans (teq hc19_33).1) (by decide) (by decide) ?_
            show Steps p.tables e below (s₁.setTop (mkF m 26 #[.val (.int p1), .val (.int p2), .val (.int (p1 &&& (3 : Int32))), .val (.int (1 : Int32)), .unset, .unset, .unset] [])) _
            refine XS.iconst X0.here hx rfl (hb hby at_26) ?_
            show Steps p.tables e below (s₁.setTop (mkF m 27 #[.val (.int p1), .val (.int p2), .val (.int (p1 &&& (3 : Int32))), .val (.int (1 : Int32)), .unset, .unset, .unset] [(.int (0 : Int32))])) _
            refine XS.istore X0.here hx rfl (hb hby at_27) rfl (l' := #[.val (.int p1), .val (.int p2), .val (.int (p1 &&& (3 : Int32))), .val (.int (1 : Int32)), .val (.int (0 : Int32)), .unset, .unset]) rfl ?_
            show Steps p.tables e below (s₁.setTop (mkF m 29 #[.val (.int p1), .val (.int p2), .val (.int (p1 &&& (3 : Int32))), .val (.int (1 : Int32)), .val (.int (0 : Int32)), .unset, .unset] [])) _
            refine XS.iloadN X0.here hx rfl (hb hby at_29) rfl ?_
            show Steps p.tables e below (s₁.setTop (mkF m 30 #[.val (.int p1), .val (.int p2), .val (.int (p1 &&& (3 : Int32))), .val (.int (1 : Int32)), .val (.int (0 : Int32)), .unset, .unset] [(.int (p1 &&& (3 : Int32)))])) _
            refine XS.ifYes X0.here hx rfl (pc0 := 30) (pc' := 57) rfl (hb hby at_30) rfl ((if0 _ _).trans (feq hc30_34).2) (by decide) (by decide) ?_
            show Steps p.tables e below (s₁.setTop (mkF m 57 #[.val (.int p1), .val (.int p2), .val (.int (p1 &&& (3 : Int32))), .val (.int (1 : Int32)), .val (.int (0 : Int32)), .unset, .unset] [])) _
            refine XS.iloadN X0.here hx rfl (hb hby at_57) rfl ?_
            show Steps p.tables e below (s₁.setTop (mkF m 58 #[.val (.int p1), .val (.int p2), .val (.int (p1 &&& (3 : Int32))), .val (.int (1 : Int32)), .val (.int (0 : Int32)), .unset, .unset] [(.int (p1 &&& (3 : Int32)))])) _
            refine XS.iconst X0.here hx rfl (hb hby at_58) ?_
            show Steps p.tables e below (s₁.setTop (mkF m 59 #[.val (.int p1), .val (.int p2), .val (.int (p1 &&& (3 : Int32))), .val (.int (1 : Int32)), .val (.int (0 : Int32)), .unset, .unset] [(.int (1 : Int32)), (.int (p1 &&& (3 : Int32)))])) _
            refine XS.icmpNo X0.here hx rfl (hb hby at_59) rfl (teq hc59_38).2 ?_
            show Steps p.tables e below (s₁.setTop (mkF m 62 #[.val (.int p1), .val (.int p2), .val (.int (p1 &&& (3 : Int32))), .val (.int (1 : Int32)), .val (.int (0 : Int32)), .unset, .unset] [])) _
            refine st39 _ ?_
            show Steps p.tables e below (T39.setTop (mkF m 65 #[.val (.int p1), .val (.int p2), .val (.int (p1 &&& (3 : Int32))), .val (.int (1 : Int32)), .val (.int (0 : Int32)), .unset, .unset] [(.ref r_OR)])) _
            refine XS.astore X39.here hx rfl (hb hby at_65) rfl rfl (l' := #[.val (.int p1), .val (.int p2), .val (.int (p1 &&& (3 : Int32))), .val (.int (1 : Int32)), .val (.int (0 : Int32)), .val (.ref r_OR), .unset]) rfl ?_
            show Steps p.tables e below (T39.setTop (mkF m 67 #[.val (.int p1), .val (.int p2), .val (.int (p1 &&& (3 : Int32))), .val (.int (1 : Int32)), .val (.int (0 : Int32)), .val (.ref r_OR), .unset] [])) _
            refine XS.iloadN X39.here hx rfl (hb hby at_67) rfl ?_
            show Steps p.tables e below (T39.setTop (mkF m 68 #[.val (.int p1), .val (.int p2), .val (.int (p1 &&& (3 : Int32))), .val (.int (1 : Int32)), .val (.int (0 : Int32)), .val (.ref r_OR), .unset] [(.int (1 : Int32))])) _
            refine XS.ifYes X39.here hx rfl (pc0 := 68) (pc' := 76) rfl (hb hby at_68) rfl ((if0 _ _).trans (feq (by decide : ¬ ((1 : Int32) = (0 : Int32)))).2) (by decide) (by decide) ?_
            show Steps p.tables e below (T39.setTop (mkF m 76 #[.val (.int p1), .val (.int p2), .val (.int (p1 &&& (3 : Int32))), .val (.int (1 : Int32)), .val (.int (0 : Int32)), .val (.ref r_OR), .unset] [])) _
            refine XS.iconst X39.here hx rfl (hb hby at_76) ?_
            show Steps p.tables e below (T39.setTop (mkF m 77 #[.val (.int p1), .val (.int p2), .val (.int (p1 &&& (3 : Int32))), .val (.int (1 : Int32)), .val (.int (0 : Int32)), .val (.ref r_OR), .unset] [(.int (1 : Int32))])) _
            refine XS.goto X39.here hx rfl (pc0 := 77) (pc' := 81) rfl (hb hby at_77) (by decide) (by decide) ?_
            show Steps p.tables e below (T39.setTop (mkF m 81 #[.val (.int p1), .val (.int p2), .val (.int (p1 &&& (3 : Int32))), .val (.int (1 : Int32)), .val (.int (0 : Int32)), .val (.ref r_OR), .unset] [(.int (1 : Int32))])) _
            refine XS.istore X39.here hx rfl (hb hby at_81) rfl (l' := #[.val (.int p1), .val (.int p2), .val (.int (p1 &&& (3 : Int32))), .val (.int (1 : Int32)), .val (.int (0 : Int32)), .val (.ref r_OR), .val (.int (1 : Int32))]) rfl ?_
            show Steps p.tables e below (T39.setTop (mkF m 83 #[.val (.int p1), .val (.int p2), .val (.int (p1 &&& (3 : Int32))), .val (.int (1 : Int32)), .val (.int (0 : Int32)), .val (.ref r_OR), .val (.int (1 : Int32))] [])) _
            refine XS.goto X39.here hx rfl (pc0 := 83) (pc' := 133) rfl (hb hby at_83) (by decide) (by decide) ?_
            show Steps p.tables e below (T39.setTop (mkF m 133 #[.val (.int p1), .val (.int p2), .val (.int (p1 &&& (3 : Int32))), .val (.int (1 : Int32)), .val (.int (0 : Int32)), .val (.ref r_OR), .val (.int (1 : Int32))] [])) _
            refine XS.aload X39.here hx rfl (hb hby at_133) rfl rfl ?_
            show Steps p.tables e below (T39.setTop (mkF m 135 #[.val (.int p1), .val (.int p2), .val (.int (p1 &&& (3 : Int32))), .val (.int (1 : Int32)), .val (.int (0 : Int32)), .val (.ref r_OR), .val (.int (1 : Int32))] [(.ref r_OR)])) _
            refine XS.iloadN X39.here hx rfl (hb hby at_135) rfl ?_
            show Steps p.tables e below (T39.setTop (mkF m 136 #[.val (.int p1), .val (.int p2), .val (.int (p1 &&& (3 : Int32))), .val (.int (1 : Int32)), .val (.int (0 : Int32)), .val (.ref r_OR), .val (.int (1 : Int32))] [(.int (1 : Int32)), (.ref r_OR)])) _
            refine XS.iload X39.here hx rfl (hb hby at_136) rfl ?_
            show Steps p.tables e below (T39.setTop (mkF m 138 #[.val (.int p1), .val (.int p2), .val (.int (p1 &&& (3 : Int32))), .val (.int (1 : Int32)), .val (.int (0 : Int32)), .val (.ref r_OR), .val (.int (1 : Int32))] [(.int (0 : Int32)), (.int (1 : Int32)), (.ref r_OR)])) _
            refine st40.trans ?_
            show Steps p.tables e below (T40.setTop (mkF m 141 #[.val (.int p1), .val (.int p2), .val (.int (p1 &&& (3 : Int32))), .val (.int (1 : Int32)), .val (.int (0 : Int32)), .val (.ref r_OR), .val (.int (1 : Int32))] [(.int (F1 (1 : Int32) (0 : Int32) (1 : Int32) (1 : Int32) (1 : Int32)))])) _
            refine XS.iload X40.here hx rfl (hb hby at_141) rfl ?_
            show Steps p.tables e below (T40.setTop (mkF m 143 #[.val (.int p1), .val (.int p2), .val (.int (p1 &&& (3 : Int32))), .val (.int (1 : Int32)), .val (.int (0 : Int32)), .val (.ref r_OR), .val (.int (1 : Int32))] [(.int (1 : Int32)), (.int (F1 (1 : Int32) (0 : Int32) (1 : Int32) (1 : Int32) (1 : Int32)))])) _
            by_cases hc143_41 : (F1 (1 : Int32) (0 : Int32) (1 : Int32) (1 : Int32) (1 : Int32)) = (1 : Int32)
            · refine XS.icmpNo X40.here hx rfl (hb hby at_143) rfl (teq hc143_41).2 ?_
              show Steps p.tables e below (T40.setTop (mkF m 146 #[.val (.int p1), .val (.int p2), .val (.int (p1 &&& (3 : Int32))), .val (.int (1 : Int32)), .val (.int (0 : Int32)), .val (.ref r_OR), .val (.int (1 : Int32))] [])) _
              refine XS.iconst X40.here hx rfl (hb hby at_146) ?_
              show Steps p.tables e below (T40.setTop (mkF m 147 #[.val (.int p1), .val (.int p2), .val (.int (p1 &&& (3 : Int32))), .val (.int (1 : Int32)), .val (.int (0 : Int32)), .val (.ref r_OR), .val (.int (1 : Int32))] [(.int (1 : Int32))])) _
              refine XS.goto X40.here hx rfl (pc0 := 147) (pc' := 151) rfl (hb hby at_147) (by decide) (by decide) ?_
              show Steps p.tables e below (T40.setTop (mkF m 151 #[.val (.int p1), .val (.int p2), .val (.int (p1 &&& (3 : Int32))), .val (.int (1 : Int32)), .val (.int (0 : Int32)), .val (.ref r_OR), .val (.int (1 : Int32))] [(.int (1 : Int32))])) _
              rw [if_pos hc143_41] at hr
              exact retN X40 hx (t := .boolean) Bd.returns (by simp) (hb hby at_151) hr
            · refine XS.icmpYes X40.here hx rfl (pc0 := 143) (pc' := 150) rfl (hb hby at_143) rfl (feq hc143_41).2 (by decide) (by decide) ?_
              show Steps p.tables e below (T40.setTop (mkF m 150 #[.val (.int p1), .val (.int p2), .val (.int (p1 &&& (3 : Int32))), .val (.int (1 : Int32)), .val (.int (0 : Int32)), .val (.ref r_OR), .val (.int (1 : Int32))] [])) _
              refine XS.iconst X40.here hx rfl (hb hby at_150) ?_
              show Steps p.tables e below (T40.setTop (mkF m 151 #[.val (.int p1), .val (.int p2), .val (.int (p1 &&& (3 : Int32))), .val (.int (1 : Int32)), .val (.int (0 : Int32)), .val (.ref r_OR), .val (.int (1 : Int32))] [(.int (0 : Int32))])) _
              rw [if_neg hc143_41] at hr
              exact retN X40 hx (t := .boolean) Bd.returns (by simp) (hb hby at_151) hr
          · show Q0 Z p1 p2 r_AND r_OR r_XOR r_AND_NOT h0 n0 _ T40.heap _
            rw [e40]
            exact ⟨congrArg (fun z => some (Value.int z)) ((show F0 p1 p2 = (if (F1 (1 : Int32) (0 : Int32) (1 : Int32) (1 : Int32) (1 : Int32)) = (1 : Int32) then (1 : Int32) else (0 : Int32)) by rw [F0, if_neg hc7_1, if_pos hc19_33, if_neg hc30_34, if_pos hc59_38]).symm.trans (own_law p1 p2)), N40⟩
        · by_cases hc88_42 : (p1 &&& (3 : Int32)) = (2 : Int32)
          · obtain ⟨T43, X43, e43, st43⟩ := getS2 X0 hx hZ hown (host := "") (Or.inl (hw _ (List.mem_of_getElem? (i := 10) rfl))) Via.refl e0 S_XOR (g := (mkF m 91 #[.val (.int p1), .val (.int p2), .val (.int (p1 &&& (3 : Int32))), .val (.int (1 : Int32)), .val (.int (0 : Int32)), .unset, .unset] [])) rfl (hb hby at_91)
            obtain ⟨cq44, kq44, q44a, q44b, q44c⟩ := isOf hZ e43 E_XOR
            obtain ⟨_, _, ⟨T44, L44, k44, n44⟩, -, X44, ⟨Lc44, hQ44, l44, y44, z44⟩, st44⟩ := X43.virtualBack hx (y := (⟨"com/example/bitweave/bitweave/SetOperation", "keeps", "(ZZ)Z"⟩ : MethodName)) (z := (⟨"com/example/bitweave/bitweave/SetOperation", "keeps", "(ZZ)Z"⟩ : MethodName)) hown (mvT hZ (hw _ (List.mem_of_getElem? (i := 3) rfl))) (mvT hZ (hw _ (List.mem_of_getElem? (i := 4) rfl))) (notFace_of_selects (args := #[]) (mvT hZ (hw _ (List.mem_of_getElem? (i := 6) rfl)))) (mvT hZ (hw _ (List.mem_of_getElem? (i := 6) rfl))) (mvT hZ (hw _ (List.mem_of_getElem? (i := 5) rfl))) (by decide) (backOf (W := 0) (rm1 l Z a0 hw [] r_XOR (1 : Int32) (0 : Int32) (1 : Int32) (1 : Int32) (0 : Int32) h0 n0 Z0 F_XOR_0 F_XOR_1 F_XOR_2) hZ (hw _ (List.mem_of_getElem? (i := 7) rfl)) (hw _ (List.mem_of_getElem? (i := 1) rfl)) (by decide) (by decide)) q44a q44c (g := (mkF m 138 #[.val (.int p1), .val (.int p2), .val (.int (p1 &&& (3 : Int32))), .val (.int (1 : Int32)), .val (.int (0 : Int32)), .val (.ref r_XOR), .val (.int (1 : Int32))] [(.int (0 : Int32)), (.int (1 : Int32)), (.ref r_XOR)])) rfl (by rw [hml]; rfl) (Steps.refl _) (argsL := [(.int (1 : Int32)), (.int (0 : Int32))]) (rest := []) (lenOf pd_1 rfl) rfl (by show 2 * 0 + _ ≤ _; exact Nat.le_of_eq rfl) (hb hby at_138) (fun _ _ => ⟨rfl, e43, (by decide : 0 + 0 ≤ _), (by decide : 0 + 0 ≤ _)⟩)
            dsimp only [Pt.U, Pt.locs, Pt.cells, Pt.slots] at X44 l44 y44 z44 st44 hQ44
            subst l44 y44 z44
            obtain ⟨rfl, N44q, e44⟩ := hQ44
            have N44 := Fr.app N0 N44q
            obtain ⟨fs, hr, hrun, hended, hW, hsame⟩ := X44.leave (v := some (.int (if (F1 (1 : Int32) (0 : Int32) (1 : Int32) (1 : Int32) (0 : Int32)) = (1 : Int32) then (1 : Int32) else (0 : Int32)))) (fun h => by rw [Bd.returns] at h; cases h)
            refine ⟨_, _, pre0 _ ?_, hrun, hended, _, _, rfl, ?_, ⟨_, rfl⟩, hW, hsame.mono (by decide) (by decide)⟩
            · show Steps p.tables e below (s₁.setTop (mkF m 0 #[.val (.int p1), .val (.int p2), .unset, .unset, .unset, .unset, .unset] [])) _
              refine XS.iloadN X0.here hx rfl (hb hby at_0) rfl ?_
              show Steps p.tables e below (s₁.setTop (mkF m 1 #[.val (.int p1), .val (.int p2), .unset, .unset, .unset, .unset, .unset] [(.int p1)])) _
              refine XS.iconst X0.here hx rfl (hb hby at_1) ?_
              show Steps p.tables e below (s₁.setTop (mkF m 2 #[.val (.int p1), .val (.int p2), .unset, .unset, .unset, .unset, .unset] [(.int (3 : Int32)), (.int p1)])) _
              refine XS.iand X0.here hx rfl (hb hby at_2) rfl ?_
              show Steps p.tables e below (s₁.setTop (mkF m 3 #[.val (.int p1), .val (.int p2), .unset, .unset, .unset, .unset, .unset] [(.int (p1 &&& (3 : Int32)))])) _
              refine XS.istoreN X0.here hx rfl (hb hby at_3) rfl (l' := #[.val (.int p1), .val (.int p2), .val (.int (p1 &&& (3 : Int32))), .unset, .unset, .unset, .unset]) rfl ?_
              show Steps p.tables e below (s₁.setTop (mkF m 4 #[.val (.int p1), .val (.int p2), .val (.int (p1 &&& (3 : Int32))), .unset, .unset, .unset, .unset] [])) _
              refine XS.iloadN X0.here hx rfl (hb hby at_4) rfl ?_
              show Steps p.tables e below (s₁.setTop (mkF m 5 #[.val (.int p1), .val (.int p2), .val (.int (p1 &&& (3 : Int32))), .unset, .unset, .unset, .unset] [(.int p2)])) _
              refine XS.iconst X0.here hx rfl (hb hby at_5) ?_
              show Steps p.tables e below (s₁.setTop (mkF m 6 #[.val (.int p1), .val (.int p2), .val (.int (p1 &&& (3 : Int32))), .unset, .unset, .unset, .unset] [(.int (1 : Int32)), (.int p2)])) _
              refine XS.iand X0.here hx rfl (hb hby at_6) rfl ?_
              show Steps p.tables e below (s₁.setTop (mkF m 7 #[.val (.int p1), .val (.int p2), .val (.int (p1 &&& (3 : Int32))), .unset, .unset, .unset, .unset] [(.int (p2 &&& (1 : Int32)))])) _
              refine XS.ifNo X0.here hx rfl (hb hby at_7) rfl ((if0 _ _).trans (feq hc7_1).1) ?_
              show Steps p.tables e below (s₁.setTop (mkF m 10 #[.val (.int p1), .val (.int p2), .val (.int (p1 &&& (3 : Int32))), .unset, .unset, .unset, .unset] [])) _
              refine XS.iconst X0.here hx rfl (hb hby at_10) ?_
              show Steps p.tables e below (s₁.setTop (mkF m 11 #[.val (.int p1), .val (.int p2), .val (.int (p1 &&& (3 : Int32))), .unset, .unset, .unset, .unset] [(.int (1 : Int32))])) _
              refine XS.goto X0.here hx rfl (pc0 := 11) (pc' := 15) rfl (hb hby at_11) (by decide) (by decide) ?_
              show Steps p.tables e below (s₁.setTop (mkF m 15 #[.val (.int p1), .val (.int p2), .val (.int (p1 &&& (3 : Int32))), .unset, .unset, .unset, .unset] [(.int (1 : Int32))])) _
              refine XS.istoreN X0.here hx rfl (hb hby at_15) rfl (l' := #[.val (.int p1), .val (.int p2), .val (.int (p1 &&& (3 : Int32))), .val (.int (1 : Int32)), .unset, .unset, .unset]) rfl ?_
              show Steps p.tables e below (s₁.setTop (mkF m 16 #[.val (.int p1), .val (.int p2), .val (.int (p1 &&& (3 : Int32))), .val (.int (1 : Int32)), .unset, .unset, .unset] [])) _
              refine XS.iloadN X0.here hx rfl (hb hby at_16) rfl ?_
              show Steps p.tables e below (s₁.setTop (mkF m 17 #[.val (.int p1), .val (.int p2), .val (.int (p1 &&& (3 : Int32))), .val (.int (1 : Int32)), .unset, .unset, .unset] [(.int p2)])) _
              refine XS.iconst X0.here hx rfl (hb hby at_17) ?_
              show Steps p.tables e below (s₁.setTop (mkF m 18 #[.val (.int p1), .val (.int p2), .val (.int (p1 &&& (3 : Int32))), .val (.int (1 : Int32)), .unset, .unset, .unset] [(.int (2 : Int32)), (.int p2)])) _
              refine XS.iand X0.here hx rfl (hb hby at_18) rfl ?_
              show Steps p.tables e below (s₁.setTop (mkF m 19 #[.val (.int p1), .val (.int p2), .val (.int (p1 &&& (3 : Int32))), .val (.int (1 : Int32)), .unset, .unset, .unset] [(.int (p2 &&& (2 : Int32)))])) _
              refine XS.ifYes X0.here hx rfl (pc0 := 19) (pc' := 26) rfl (hb hby at_19) rfl ((if0 _ _).trans (teq hc19_33).1) (by decide) (by decide) ?_
              show Steps p.tables e below (s₁.setTop (mkF m 26 #[.val (.int p1), .val (.int p2), .val (.int (p1 &&& (3 : Int32))), .val (.int (1 : Int32)), .unset, .unset, .unset] [])) _
              refine XS.iconst X0.here hx rfl (hb hby at_26) ?_
              show Steps p.tables e below (s₁.setTop (mkF m 27 #[.val (.int p1), .val (.int p2), .val (.int (p1 &&& (3 : Int32))), .val (.int (1 : Int32)), .unset, .unset, .unset] [(.int (0 : Int32))])) _
              refine XS.istore X0.here hx rfl (hb hby at_27) rfl (l' := #[.val (.int p1), .val (.int p2), .val (.int (p1 &&& (3 : Int32))), .val (.int (1 : Int32)), .val (.int (0 : Int32)), .unset, .unset]) rfl ?_
              show Steps p.tables e below (s₁.setTop (mkF m 29 #[.val (.int p1), .val (.int p2), .val (.int (p1 &&& (3 : Int32))), .val (.int (1 : Int32)), .val (.int (0 : Int32)), .unset, .unset] [])) _
              refine XS.iloadN X0.here hx rfl (hb hby at_29) rfl ?_
              show Steps p.tables e below (s₁.setTop (mkF m 30 #[.val (.int p1), .val (.int p2), .val (.int (p1 &&& (3 : Int32))), .val (.int (1 : Int32)), .val (.int (0 : Int32)), .unset, .unset] [(.int (p1 &&& (3 : Int32)))])) _
              refine XS.ifYes X0.here hx rfl (pc0 := 30) (pc' := 57) rfl (hb hby at_30) rfl ((if0 _ _).trans (feq hc30_34).2) (by decide) (by decide) ?_
              show Steps p.tables e below (s₁.setTop (mkF m 57 #[.val (.int p1), .val (.int p2), .val (.int (p1 &&& (3 : Int32))), .val (.int (1 : Int32)), .val (.int (0 : Int32)), .unset, .unset] [])) _
              refine XS.iloadN X0.here hx rfl (hb hby at_57) rfl ?_
              show Steps p.tables e below (s₁.setTop (mkF m 58 #[.val (.int p1), .val (.int p2), .val (.int (p1 &&& (3 : Int32))), .val (.int (1 : Int32)), .val (.int (0 : Int32)), .unset, .unset] [(.int (p1 &&& (3 : Int32)))])) _
              refine XS.iconst X0.here hx rfl (hb hby at_58) ?_
              show Steps p.tables e below (s₁.setTop (mkF m 59 #[.val (.int p1), .val (.int p2), .val (.int (p1 &&& (3 : Int32))), .val (.int (1 : Int32)), .val (.int (0 : Int32)), .unset, .unset] [(.int (1 : Int32)), (.int (p1 &&& (3 : Int32)))])) _
              refine XS.icmpYes X0.here hx rfl (pc0 := 59) (pc' := 86) rfl (hb hby at_59) rfl (feq hc59_38).2 (by decide) (by decide) ?_
              show Steps p.tables e below (s₁.setTop (mkF m 86 #[.val (.int p1), .val (.int p2), .val (.int (p1 &&& (3 : Int32))), .val (.int (1 : Int32)), .val (.int (0 : Int32)), .unset, .unset] [])) _
              refine XS.iloadN X0.here hx rfl (hb hby at_86) rfl ?_
              show Steps p.tables e below (s₁.setTop (mkF m 87 #[.val (.int p1), .val (.int p2), .val (.int (p1 &&& (3 : Int32))), .val (.int (1 : Int32)), .val (.int (0 : Int32)), .unset, .unset] [(.int (p1 &&& (3 : Int32)))])) _
              refine XS.iconst X0.here hx rfl (hb hby at_87) ?_
              show Steps p.tables e below (s₁.setTop (mkF m 88 #[.val (.int p1), .val (.int p2), .val (.int (p1 &&& (3 : Int32))), .val (.int (1 : Int32)), .val (.int (0 : Int32)), .unset, .unset] [(.int (2 : Int32)), (.int (p1 &&& (3 : Int32)))])) _
              refine XS.icmpNo X0.here hx rfl (hb hby at_88) rfl (teq hc88_42).2 ?_
              show Steps p.tables e below (s₁.setTop (mkF m 91 #[.val (.int p1), .val (.int p2), .val (.int (p1 &&& (3 : Int32))), .val (.int (1 : Int32)), .val (.int (0 : Int32)), .unset, .unset] [])) _
              refine st43 _ ?_
              show Steps p.tables e below (T43.setTop (mkF m 94 #[.val (.int p1), .val (.int p2), .val (.int (p1 &&& (3 : Int32))), .val (.int (1 : Int32)), .val (.int (0 : Int32)), .unset, .unset] [(.ref r_XOR)])) _
              refine XS.astore X43.here hx rfl (hb hby at_94) rfl rfl (l' := #[.val (.int p1), .val (.int p2), .val (.int (p1 &&& (3 : Int32))), .val (.int (1 : Int32)), .val (.int (0 : Int32)), .val (.ref r_XOR), .unset]) rfl ?_
              show Steps p.tables e below (T43.setTop (mkF m 96 #[.val (.int p1), .val (.int p2), .val (.int (p1 &&& (3 : Int32))), .val (.int (1 : Int32)), .val (.int (0 : Int32)), .val (.ref r_XOR), .unset] [])) _
              refine XS.iloadN X43.here hx rfl (hb hby at_96) rfl ?_
              show Steps p.tables e below (T43.setTop (mkF m 97 #[.val (.int p1), .val (.int p2), .val (.int (p1 &&& (3 : Int32))), .val (.int (1 : Int32)), .val (.int (0 : Int32)), .val (.ref r_XOR), .unset] [(.int (1 : Int32))])) _
              refine XS.iload X43.here hx rfl (hb hby at_97) rfl ?_
              show Steps p.tables e below (T43.setTop (mkF m 99 #[.val (.int p1), .val (.int p2), .val (.int (p1 &&& (3 : Int32))), .val (.int (1 : Int32)), .val (.int (0 : Int32)), .val (.ref r_XOR), .unset] [(.int (0 : Int32)), (.int (1 : Int32))])) _
              refine XS.icmpNo X43.here hx rfl (hb hby at_99) rfl (feq (by decide : ¬ ((1 : Int32) = (0 : Int32)))).1 ?_
              show Steps p.tables e below (T43.setTop (mkF m 102 #[.val (.int p1), .val (.int p2), .val (.int (p1 &&& (3 : Int32))), .val (.int (1 : Int32)), .val (.int (0 : Int32)), .val (.ref r_XOR), .unset] [])) _
              refine XS.iconst X43.here hx rfl (hb hby at_102) ?_
              show Steps p.tables e below (T43.setTop (mkF m 103 #[.val (.int p1), .val (.int p2), .val (.int (p1 &&& (3 : Int32))), .val (.int (1 : Int32)), .val (.int (0 : Int32)), .val (.ref r_XOR), .unset] [(.int (1 : Int32))])) _
              refine XS.goto X43.here hx rfl (pc0 := 103) (pc' := 107) rfl (hb hby at_103) (by decide) (by decide) ?_
              show Steps p.tables e below (T43.setTop (mkF m 107 #[.val (.int p1), .val (.int p2), .val (.int (p1 &&& (3 : Int32))), .val (.int (1 : Int32)), .val (.int (0 : Int32)), .val (.ref r_XOR), .unset] [(.int (1 : Int32))])) _
              refine XS.istore X43.here hx rfl (hb hby at_107) rfl (l' := #[.val (.int p1), .val (.int p2), .val (.int (p1 &&& (3 : Int32))), .val (.int (1 : Int32)), .val (.int (0 : Int32)), .val (.ref r_XOR), .val (.int (1 : Int32))]) rfl ?_
              show Steps p.tables e below (T43.setTop (mkF m 109 #[.val (.int p1), .val (.int p2), .val (.int (p1 &&& (3 : Int32))), .val (.int (1 : Int32)), .val (.int (0 : Int32)), .val (.ref r_XOR), .val (.int (1 : Int32))] [])) _
              refine XS.goto X43.here hx rfl (pc0 := 109) (pc' := 133) rfl (hb hby at_109) (by decide) (by decide) ?_
              show Steps p.tables e below (T43.setTop (mkF m 133 #[.val (.int p1), .val (.int p2), .val (.int (p1 &&& (3 : Int32))), .val (.int (1 : Int32)), .val (.int (0 : Int32)), .val (.ref r_XOR), .val (.int (1 : Int32))] [])) _
              refine XS.aload X43.here hx rfl (hb hby at_133) rfl rfl ?_
              show Steps p.tables e below (T43.setTop (mkF m 135 #[.val (.int p1), .val (.int p2), .val (.int (p1 &&& (3 : Int32))), .val (.int (1 : Int32)), .val (.int (0 : Int32)), .val (.ref r_XOR), .val (.int (1 : Int32))] [(.ref r_XOR)])) _
              refine XS.iloadN X43.here hx rfl (hb hby at_135) rfl ?_
              show Steps p.tables e below (T43.setTop (mkF m 136 #[.val (.int p1), .val (.int p2), .val (.int (p1 &&& (3 : Int32))), .val (.int (1 : Int32)), .val (.int (0 : Int32)), .val (.ref r_XOR), .val (.int (1 : Int32))] [(.int (1 : Int32)), (.ref r_XOR)])) _
              refine XS.iload X43.here hx rfl (hb hby at_136) rfl ?_
              show Steps p.tables e below (T43.setTop (mkF m 138 #[.val (.int p1), .val (.int p2), .val (.int (p1 &&& (3 : Int32))), .val (.int (1 : Int32)), .val (.int (0 : Int32)), .val (.ref r_XOR), .val (.int (1 : Int32))] [(.int (0 : Int32)), (.int (1 : Int32)), (.ref r_XOR)])) _
              refine st44.trans ?_
              show Steps p.tables e below (T44.setTop (mkF m 141 #[.val (.int p1), .val (.int p2), .val (.int (p1 &&& (3 : Int32))), .val (.int (1 : Int32)), .val (.int (0 : Int32)), .val (.ref r_XOR), .val (.int (1 : Int32))] [(.int (F1 (1 : Int32) (0 : Int32) (1 : Int32) (1 : Int32) (0 : Int32)))])) _
              refine XS.iload X44.here hx rfl (hb hby at_141) rfl ?_
              show Steps p.tables e below (T44.setTop (mkF m 143 #[.val (.int p1), .val (.int p2), .val (.int (p1 &&& (3 : Int32))), .val (.int (1 : Int32)), .val (.int (0 : Int32)), .val (.ref r_XOR), .val (.int (1 : Int32))] [(.int (1 : Int32)), (.int (F1 (1 : Int32) (0 : Int32) (1 : Int32) (1 : Int32) (0 : Int32)))])) _
              by_cases hc143_45 : (F1 (1 : Int32) (0 : Int32) (1 : Int32) (1 : Int32) (0 : Int32)) = (1 : Int32)
              · refine XS.icmpNo X44.here hx rfl (hb hby at_143) rfl (teq hc143_45).2 ?_
                show Steps p.tables e below (T44.setTop (mkF m 146 #[.val (.int p1), .val (.int p2), .val (.int (p1 &&& (3 : Int32))), .val (.int (1 : Int32)), .val (.int (0 : Int32)), .val (.ref r_XOR), .val (.int (1 : Int32))] [])) _
                refine XS.iconst X44.here hx rfl (hb hby at_146) ?_
                show Steps p.tables e below (T44.setTop (mkF m 147 #[.val (.int p1), .val (.int p2), .val (.int (p1 &&& (3 : Int32))), .val (.int (1 : Int32)), .val (.int (0 : Int32)), .val (.ref r_XOR), .val (.int (1 : Int32))] [(.int (1 : Int32))])) _
                refine XS.goto X44.here hx rfl (pc0 := 147) (pc' := 151) rfl (hb hby at_147) (by decide) (by decide) ?_
                show Steps p.tables e below (T44.setTop (mkF m 151 #[.val (.int p1), .val (.int p2), .val (.int (p1 &&& (3 : Int32))), .val (.int (1 : Int32)), .val (.int (0 : Int32)), .val (.ref r_XOR), .val (.int (1 : Int32))] [(.int (1 : Int32))])) _
                rw [if_pos hc143_45] at hr
                exact retN X44 hx (t := .boolean) Bd.returns (by simp) (hb hby at_151) hr
              · refine XS.icmpYes X44.here hx rfl (pc0 := 143) (pc' := 150) rfl (hb hby at_143) rfl (feq hc143_45).2 (by decide) (by decide) ?_
                show Steps p.tables e below (T44.setTop (mkF m 150 #[.val (.int p1), .val (.int p2), .val (.int (p1 &&& (3 : Int32))), .val (.int (1 : Int32)), .val (.int (0 : Int32)), .val (.ref r_XOR), .val (.int (1 : Int32))] [])) _
                refine XS.iconst X44.here hx rfl (hb hby at_150) ?_
                show Steps p.tables e below (T44.setTop (mkF m 151 #[.val (.int p1), .val (.int p2), .val (.int (p1 &&& (3 : Int32))), .val (.int (1 : Int32)), .val (.int (0 : Int32)), .val (.ref r_XOR), .val (.int (1 : Int32))] [(.int (0 : Int32))])) _
                rw [if_neg hc143_45] at hr
                exact retN X44 hx (t := .boolean) Bd.returns (by simp) (hb hby at_151) hr
            · show Q0 Z p1 p2 r_AND r_OR r_XOR r_AND_NOT h0 n0 _ T44.heap _
              rw [e44]
              exact ⟨congrArg (fun z => some (Value.int z)) ((show F0 p1 p2 = (if (F1 (1 : Int32) (0 : Int32) (1 : Int32) (1 : Int32) (0 : Int32)) = (1 : Int32) then (1 : Int32) else (0 : Int32)) by rw [F0, if_neg hc7_1, if_pos hc19_33, if_neg hc30_34, if_neg hc59_38, if_pos hc88_42]).symm.trans (own_law p1 p2)), N44⟩
          · obtain ⟨T46, X46, e46, st46⟩ := getS2 X0 hx hZ hown (host := "") (Or.inl (hw _ (List.mem_of_getElem? (i := 16) rfl))) Via.refl e0 S_AND_NOT (g := (mkF m 112 #[.val (.int p1), .val (.int p2), .val (.int (p1 &&& (3 : Int32))), .val (.int (1 : Int32)), .val (.int (0 : Int32)), .unset, .unset] [])) rfl (hb hby at_112)
            obtain ⟨cq47, kq47, q47a, q47b, q47c⟩ := isOf hZ e46 E_AND_NOT
            obtain ⟨_, _, ⟨T47, L47, k47, n47⟩, -, X47, ⟨Lc47, hQ47, l47, y47, z47⟩, st47⟩ := X46.virtualBack hx (y := (⟨"com/example/bitweave/bitweave/SetOperation", "keeps", "(ZZ)Z"⟩ : MethodName)) (z := (⟨"com/example/bitweave/bitweave/SetOperation", "keeps", "(ZZ)Z"⟩ : MethodName)) hown (mvT hZ (hw _ (List.mem_of_getElem? (i := 3) rfl))) (mvT hZ (hw _ (List.mem_of_getElem? (i := 4) rfl))) (notFace_of_selects (args := #[]) (mvT hZ (hw _ (List.mem_of_getElem? (i := 6) rfl)))) (mvT hZ (hw _ (List.mem_of_getElem? (i := 6) rfl))) (mvT hZ (hw _ (List.mem_of_getElem? (i := 5) rfl))) (by decide) (backOf (W := 0) (rm1 l Z a0 hw [] r_AND_NOT (1 : Int32) (0 : Int32) (1 : Int32) (0 : Int32) (0 : Int32) h0 n0 Z0 F_AND_NOT_0 F_AND_NOT_1 F_AND_NOT_2) hZ (hw _ (List.mem_of_getElem? (i := 7) rfl)) (hw _ (List.mem_of_getElem? (i := 1) rfl)) (by decide) (by decide)) q47a q47c (g := (mkF m 138 #[.val (.int p1), .val (.int p2), .val (.int (p1 &&& (3 : Int32))), .val (.int (1 : Int32)), .val (.int (0 : Int32)), .val (.ref r_AND_NOT), .val (.int (1 : Int32))] [(.int (0 : Int32)), (.int (1 : Int32)), (.ref r_AND_NOT)])) rfl (by rw [hml]; rfl) (Steps.refl _) (argsL := [(.int (1 : Int32)), (.int (0 : Int32))]) (rest := []) (lenOf pd_1 rfl) rfl (by show 2 * 0 + _ ≤ _; exact Nat.le_of_eq rfl) (hb hby at_138) (fun _ _ => ⟨rfl, e46, (by decide : 0 + 0 ≤ _), (by decide : 0 + 0 ≤ _)⟩)
            dsimp only [Pt.U, Pt.locs, Pt.cells, Pt.slots] at X47 l47 y47 z47 st47 hQ47
            subst l47 y47 z47
            obtain ⟨rfl, N47q, e47⟩ := hQ47
            have N47 := Fr.app N0 N47q
            obtain ⟨fs, hr, hrun, hended, hW, hsame⟩ := X47.leave (v := some (.int (if (F1 (1 : Int32) (0 : Int32) (1 : Int32) (0 : Int32) (0 : Int32)) = (1 : Int32) then (1 : Int32) else (0 : Int32)))) (fun h => by rw [Bd.returns] at h; cases h)
            refine ⟨_, _, pre0 _ ?_, hrun, hended, _, _, rfl, ?_, ⟨_, rfl⟩, hW, hsame.mono (by decide) (by decide)⟩
            · show Steps p.tables e below (s₁.setTop (mkF m 0 #[.val (.int p1), .val (.int p2), .unset, .unset, .unset, .unset, .unset] [])) _
              refine XS.iloadN X0.here hx rfl (hb hby at_0) rfl ?_
              show Steps p.tables e below (s₁.setTop (mkF m 1 #[.val (.int p1), .val (.int p2), .unset, .unset, .unset, .unset, .unset] [(.int p1)])) _
              refine XS.iconst X0.here hx rfl (hb hby at_1) ?_
              show Steps p.tables e below (s₁.setTop (mkF m 2 #[.val (.int p1), .val (.int p2), .unset, .unset, .unset, .unset, .unset] [(.int (3 : Int32)), (.int p1)])) _
              refine XS.iand X0.here hx rfl (hb hby at_2) rfl ?_
              show Steps p.tables e below (s₁.setTop (mkF m 3 #[.val (.int p1), .val (.int p2), .unset, .unset, .unset, .unset, .unset] [(.int (p1 &&& (3 : Int32)))])) _
              refine XS.istoreN X0.here hx rfl (hb hby at_3) rfl (l' := #[.val (.int p1), .val (.int p2), .val (.int (p1 &&& (3 : Int32))), .unset, .unset, .unset, .unset]) rfl ?_
              show Steps p.tables e below (s₁.setTop (mkF m 4 #[.val (.int p1), .val (.int p2), .val (.int (p1 &&& (3 : Int32))), .unset, .unset, .unset, .unset] [])) _
              refine XS.iloadN X0.here hx rfl (hb hby at_4) rfl ?_
              show Steps p.tables e below (s₁.setTop (mkF m 5 #[.val (.int p1), .val (.int p2), .val (.int (p1 &&& (3 : Int32))), .unset, .unset, .unset, .unset] [(.int p2)])) _
              refine XS.iconst X0.here hx rfl (hb hby at_5) ?_
              show Steps p.tables e below (s₁.setTop (mkF m 6 #[.val (.int p1), .val (.int p2), .val (.int (p1 &&& (3 : Int32))), .unset, .unset, .unset, .unset] [(.int (1 : Int32)), (.int p2)])) _
              refine XS.iand X0.here hx rfl (hb hby at_6) rfl ?_
              show Steps p.tables e below (s₁.setTop (mkF m 7 #[.val (.int p1), .val (.int p2), .val (.int (p1 &&& (3 : Int32))), .unset, .unset, .unset, .unset] [(.int (p2 &&& (1 : Int32)))])) _
              refine XS.ifNo X0.here hx rfl (hb hby at_7) rfl ((if0 _ _).trans (feq hc7_1).1) ?_
              show Steps p.tables e below (s₁.setTop (mkF m 10 #[.val (.int p1), .val (.int p2), .val (.int (p1 &&& (3 : Int32))), .unset, .unset, .unset, .unset] [])) _
              refine XS.iconst X0.here hx rfl (hb hby at_10) ?_
              show Steps p.tables e below (s₁.setTop (mkF m 11 #[.val (.int p1), .val (.int p2), .val (.int (p1 &&& (3 : Int32))), .unset, .unset, .unset, .unset] [(.int (1 : Int32))])) _
              refine XS.goto X0.here hx rfl (pc0 := 11) (pc' := 15) rfl (hb hby at_11) (by decide) (by decide) ?_
              show Steps p.tables e below (s₁.setTop (mkF m 15 #[.val (.int p1), .val (.int p2), .val (.int (p1 &&& (3 : Int32))), .unset, .unset, .unset, .unset] [(.int (1 : Int32))])) _
              refine XS.istoreN X0.here hx rfl (hb hby at_15) rfl (l' := #[.val (.int p1), .val (.int p2), .val (.int (p1 &&& (3 : Int32))), .val (.int (1 : Int32)), .unset, .unset, .unset]) rfl ?_
              show Steps p.tables e below (s₁.setTop (mkF m 16 #[.val (.int p1), .val (.int p2), .val (.int (p1 &&& (3 : Int32))), .val (.int (1 : Int32)), .unset, .unset, .unset] [])) _
              refine XS.iloadN X0.here hx rfl (hb hby at_16) rfl ?_
              show Steps p.tables e below (s₁.setTop (mkF m 17 #[.val (.int p1), .val (.int p2), .val (.int (p1 &&& (3 : Int32))), .val (.int (1 : Int32)), .unset, .unset, .unset] [(.int p2)])) _
              refine XS.iconst X0.here hx rfl (hb hby at_17) ?_
              show Steps p.tables e below (s₁.setTop (mkF m 18 #[.val (.int p1), .val (.int p2), .val (.int (p1 &&& (3 : Int32))), .val (.int (1 : Int32)), .unset, .unset, .unset] [(.int (2 : Int32)), (.int p2)])) _
              refine XS.iand X0.here hx rfl (hb hby at_18) rfl ?_
              show Steps p.tables e below (s₁.setTop (mkF m 19 #[.val (.int p1), .val (.int p2), .val (.int (p1 &&& (3 : Int32))), .val (.int (1 : Int32)), .unset, .unset, .unset] [(.int (p2 &&& (2 : Int32)))])) _
              refine XS.ifYes X0.here hx rfl (pc0 := 19) (pc' := 26) rfl (hb hby at_19) rfl ((if0 _ _).trans (teq hc19_33).1) (by decide) (by decide) ?_
              show Steps p.tables e below (s₁.setTop (mkF m 26 #[.val (.int p1), .val (.int p2), .val (.int (p1 &&& (3 : Int32))), .val (.int (1 : Int32)), .unset, .unset, .unset] [])) _
              refine XS.iconst X0.here hx rfl (hb hby at_26) ?_
              show Steps p.tables e below (s₁.setTop (mkF m 27 #[.val (.int p1), .val (.int p2), .val (.int (p1 &&& (3 : Int32))), .val (.int (1 : Int32)), .unset, .unset, .unset] [(.int (0 : Int32))])) _
              refine XS.istore X0.here hx rfl (hb hby at_27) rfl (l' := #[.val (.int p1), .val (.int p2), .val (.int (p1 &&& (3 : Int32))), .val (.int (1 : Int32)), .val (.int (0 : Int32)), .unset, .unset]) rfl ?_
              show Steps p.tables e below (s₁.setTop (mkF m 29 #[.val (.int p1), .val (.int p2), .val (.int (p1 &&& (3 : Int32))), .val (.int (1 : Int32)), .val (.int (0 : Int32)), .unset, .unset] [])) _
              refine XS.iloadN X0.here hx rfl (hb hby at_29) rfl ?_
              show Steps p.tables e below (s₁.setTop (mkF m 30 #[.val (.int p1), .val (.int p2), .val (.int (p1 &&& (3 : Int32))), .val (.int (1 : Int32)), .val (.int (0 : Int32)), .unset, .unset] [(.int (p1 &&& (3 : Int32)))])) _
              refine XS.ifYes X0.here hx rfl (pc0 := 30) (pc' := 57) rfl (hb hby at_30) rfl ((if0 _ _).trans (feq hc30_34).2) (by decide) (by decide) ?_
              show Steps p.tables e below (s₁.setTop (mkF m 57 #[.val (.int p1), .val (.int p2), .val (.int (p1 &&& (3 : Int32))), .val (.int (1 : Int32)), .val (.int (0 : Int32)), .unset, .unset] [])) _
              refine XS.iloadN X0.here hx rfl (hb hby at_57) rfl ?_
              show Steps p.tables e below (s₁.setTop (mkF m 58 #[.val (.int p1), .val (.int p2), .val (.int (p1 &&& (3 : Int32))), .val (.int (1 : Int32)), .val (.int (0 : Int32)), .unset, .unset] [(.int (p1 &&& (3 : Int32)))])) _
              refine XS.iconst X0.here hx rfl (hb hby at_58) ?_
              show Steps p.tables e below (s₁.setTop (mkF m 59 #[.val (.int p1), .val (.int p2), .val (.int (p1 &&& (3 : Int32))), .val (.int (1 : Int32)), .val (.int (0 : Int32)), .unset, .unset] [(.int (1 : Int32)), (.int (p1 &&& (3 : Int32)))])) _
              refine XS.icmpYes X0.here hx rfl (pc0 := 59) (pc' := 86) rfl (hb hby at_59) rfl (feq hc59_38).2 (by decide) (by decide) ?_
              show Steps p.tables e below (s₁.setTop (mkF m 86 #[.val (.int p1), .val (.int p2), .val (.int (p1 &&& (3 : Int32))), .val (.int (1 : Int32)), .val (.int (0 : Int32)), .unset, .unset] [])) _
              refine XS.iloadN X0.here hx rfl (hb hby at_86) rfl ?_
              show Steps p.tables e below (s₁.setTop (mkF m 87 #[.val (.int p1), .val (.int p2), .val (.int (p1 &&& (3 : Int32))), .val (.int (1 : Int32)), .val (.int (0 : Int32)), .unset, .unset] [(.int (p1 &&& (3 : Int32)))])) _
              refine XS.iconst X0.here hx rfl (hb hby at_87) ?_
              show Steps p.tables e below (s₁.setTop (mkF m 88 #[.val (.int p1), .val (.int p2), .val (.int (p1 &&& (3 : Int32))), .val (.int (1 : Int32)), .val (.int (0 : Int32)), .unset, .unset] [(.int (2 : Int32)), (.int (p1 &&& (3 : Int32)))])) _
              refine XS.icmpYes X0.here hx rfl (pc0 := 88) (pc' := 112) rfl (hb hby at_88) rfl (feq hc88_42).2 (by decide) (by decide) ?_
              show Steps p.tables e below (s₁.setTop (mkF m 112 #[.val (.int p1), .val (.int p2), .val (.int (p1 &&& (3 : Int32))), .val (.int (1 : Int32)), .val (.int (0 : Int32)), .unset, .unset] [])) _
              refine st46 _ ?_
              show Steps p.tables e below (T46.setTop (mkF m 115 #[.val (.int p1), .val (.int p2), .val (.int (p1 &&& (3 : Int32))), .val (.int (1 : Int32)), .val (.int (0 : Int32)), .unset, .unset] [(.ref r_AND_NOT)])) _
              refine XS.astore X46.here hx rfl (hb hby at_115) rfl rfl (l' := #[.val (.int p1), .val (.int p2), .val (.int (p1 &&& (3 : Int32))), .val (.int (1 : Int32)), .val (.int (0 : Int32)), .val (.ref r_AND_NOT), .unset]) rfl ?_
              show Steps p.tables e below (T46.setTop (mkF m 117 #[.val (.int p1), .val (.int p2), .val (.int (p1 &&& (3 : Int32))), .val (.int (1 : Int32)), .val (.int (0 : Int32)), .val (.ref r_AND_NOT), .unset] [])) _
              refine XS.iloadN X46.here hx rfl (hb hby at_117) rfl ?_
              show Steps p.tables e below (T46.setTop (mkF m 118 #[.val (.int p1), .val (.int p2), .val (.int (p1 &&& (3 : Int32))), .val (.int (1 : Int32)), .val (.int (0 : Int32)), .val (.ref r_AND_NOT), .unset] [(.int (1 : Int32))])) _
              refine XS.ifNo X46.here hx rfl (hb hby at_118) rfl ((if0 _ _).trans (feq (by decide : ¬ ((1 : Int32) = (0 : Int32)))).1) ?_
              show Steps p.tables e below (T46.setTop (mkF m 121 #[.val (.int p1), .val (.int p2), .val (.int (p1 &&& (3 : Int32))), .val (.int (1 : Int32)), .val (.int (0 : Int32)), .val (.ref r_AND_NOT), .unset] [])) _
              refine XS.iload X46.here hx rfl (hb hby at_121) rfl ?_
              show Steps p.tables e below (T46.setTop (mkF m 123 #[.val (.int p1), .val (.int p2), .val (.int (p1 &&& (3 : Int32))), .val (.int (1 : Int32)), .val (.int (0 : Int32)), .val (.ref r_AND_NOT), .unset] [(.int (0 : Int32))])) _
              refine XS.ifNo X46.here hx rfl (hb hby at_123) rfl ((if0 _ _).trans (teq (rfl : (0 : Int32) = (0 : Int32))).2) ?_
              show Steps p.tables e below (T46.setTop (mkF m 126 #[.val (.int p1), .val (.int p2), .val (.int (p1 &&& (3 : Int32))), .val (.int (1 : Int32)), .val (.int (0 : Int32)), .val (.ref r_AND_NOT), .unset] [])) _
              refine XS.iconst X46.here hx rfl (hb hby at_126) ?_
              show Steps p.tables e below (T46.setTop (mkF m 127 #[.val (.int p1), .val (.int p2), .val (.int (p1 &&& (3 : Int32))), .val (.int (1 : Int32)), .val (.int (0 : Int32)), .val (.ref r_AND_NOT), .unset] [(.int (1 : Int32))])) _
              refine XS.goto X46.here hx rfl (pc0 := 127) (pc' := 131) rfl (hb hby at_127) (by decide) (by decide) ?_
              show Steps p.tables e below (T46.setTop (mkF m 131 #[.val (.int p1), .val (.int p2), .val (.int (p1 &&& (3 : Int32))), .val (.int (1 : Int32)), .val (.int (0 : Int32)), .val (.ref r_AND_NOT), .unset] [(.int (1 : Int32))])) _
              refine XS.istore X46.here hx rfl (hb hby at_131) rfl (l' := #[.val (.int p1), .val (.int p2), .val (.int (p1 &&& (3 : Int32))), .val (.int (1 : Int32)), .val (.int (0 : Int32)), .val (.ref r_AND_NOT), .val (.int (1 : Int32))]) rfl ?_
              show Steps p.tables e below (T46.setTop (mkF m 133 #[.val (.int p1), .val (.int p2), .val (.int (p1 &&& (3 : Int32))), .val (.int (1 : Int32)), .val (.int (0 : Int32)), .val (.ref r_AND_NOT), .val (.int (1 : Int32))] [])) _
              refine XS.aload X46.here hx rfl (hb hby at_133) rfl rfl ?_
              show Steps p.tables e below (T46.setTop (mkF m 135 #[.val (.int p1), .val (.int p2), .val (.int (p1 &&& (3 : Int32))), .val (.int (1 : Int32)), .val (.int (0 : Int32)), .val (.ref r_AND_NOT), .val (.int (1 : Int32))] [(.ref r_AND_NOT)])) _
              refine XS.iloadN X46.here hx rfl (hb hby at_135) rfl ?_
              show Steps p.tables e below (T46.setTop (mkF m 136 #[.val (.int p1), .val (.int p2), .val (.int (p1 &&& (3 : Int32))), .val (.int (1 : Int32)), .val (.int (0 : Int32)), .val (.ref r_AND_NOT), .val (.int (1 : Int32))] [(.int (1 : Int32)), (.ref r_AND_NOT)])) _
              refine XS.iload X46.here hx rfl (hb hby at_136) rfl ?_
              show Steps p.tables e below (T46.setTop (mkF m 138 #[.val (.int p1), .val (.int p2), .val (.int (p1 &&& (3 : Int32))), .val (.int (1 : Int32)), .val (.int (0 : Int32)), .val (.ref r_AND_NOT), .val (.int (1 : Int32))] [(.int (0 : Int32)), (.int (1 : Int32)), (.ref r_AND_NOT)])) _
              refine st47.trans ?_
              show Steps p.tables e below (T47.setTop (mkF m 141 #[.val (.int p1), .val (.int p2), .val (.int (p1 &&& (3 : Int32))), .val (.int (1 : Int32)), .val (.int (0 : Int32)), .val (.ref r_AND_NOT), .val (.int (1 : Int32))] [(.int (F1 (1 : Int32) (0 : Int32) (1 : Int32) (0 : Int32) (0 : Int32)))])) _
              refine XS.iload X47.here hx rfl (hb hby at_141) rfl ?_
              show Steps p.tables e below (T47.setTop (mkF m 143 #[.val (.int p1), .val (.int p2), .val (.int (p1 &&& (3 : Int32))), .val (.int (1 : Int32)), .val (.int (0 : Int32)), .val (.ref r_AND_NOT), .val (.int (1 : Int32))] [(.int (1 : Int32)), (.int (F1 (1 : Int32) (0 : Int32) (1 : Int32) (0 : Int32) (0 : Int32)))])) _
              by_cases hc143_48 : (F1 (1 : Int32) (0 : Int32) (1 : Int32) (0 : Int32) (0 : Int32)) = (1 : Int32)
              · refine XS.icmpNo X47.here hx rfl (hb hby at_143) rfl (teq hc143_48).2 ?_
                show Steps p.tables e below (T47.setTop (mkF m 146 #[.val (.int p1), .val (.int p2), .val (.int (p1 &&& (3 : Int32))), .val (.int (1 : Int32)), .val (.int (0 : Int32)), .val (.ref r_AND_NOT), .val (.int (1 : Int32))] [])) _
                refine XS.iconst X47.here hx rfl (hb hby at_146) ?_
                show Steps p.tables e below (T47.setTop (mkF m 147 #[.val (.int p1), .val (.int p2), .val (.int (p1 &&& (3 : Int32))), .val (.int (1 : Int32)), .val (.int (0 : Int32)), .val (.ref r_AND_NOT), .val (.int (1 : Int32))] [(.int (1 : Int32))])) _
                refine XS.goto X47.here hx rfl (pc0 := 147) (pc' := 151) rfl (hb hby at_147) (by decide) (by decide) ?_
                show Steps p.tables e below (T47.setTop (mkF m 151 #[.val (.int p1), .val (.int p2), .val (.int (p1 &&& (3 : Int32))), .val (.int (1 : Int32)), .val (.int (0 : Int32)), .val (.ref r_AND_NOT), .val (.int (1 : Int32))] [(.int (1 : Int32))])) _
                rw [if_pos hc143_48] at hr
                exact retN X47 hx (t := .boolean) Bd.returns (by simp) (hb hby at_151) hr
              · refine XS.icmpYes X47.here hx rfl (pc0 := 143) (pc' := 150) rfl (hb hby at_143) rfl (feq hc143_48).2 (by decide) (by decide) ?_
                show Steps p.tables e below (T47.setTop (mkF m 150 #[.val (.int p1), .val (.int p2), .val (.int (p1 &&& (3 : Int32))), .val (.int (1 : Int32)), .val (.int (0 : Int32)), .val (.ref r_AND_NOT), .val (.int (1 : Int32))] [])) _
                refine XS.iconst X47.here hx rfl (hb hby at_150) ?_
                show Steps p.tables e below (T47.setTop (mkF m 151 #[.val (.int p1), .val (.int p2), .val (.int (p1 &&& (3 : Int32))), .val (.int (1 : Int32)), .val (.int (0 : Int32)), .val (.ref r_AND_NOT), .val (.int (1 : Int32))] [(.int (0 : Int32))])) _
                rw [if_neg hc143_48] at hr
                exact retN X47 hx (t := .boolean) Bd.returns (by simp) (hb hby at_151) hr
            · show Q0 Z p1 p2 r_AND r_OR r_XOR r_AND_NOT h0 n0 _ T47.heap _
              rw [e47]
              exact ⟨congrArg (fun z => some (Value.int z)) ((show F0 p1 p2 = (if (F1 (1 : Int32) (0 : Int32) (1 : Int32) (0 : Int32) (0 : Int32)) = (1 : Int32) then (1 : Int32) else (0 : Int32)) by rw [F0, if_neg hc7_1, if_pos hc19_33, if_neg hc30_34, if_neg hc59_38, if_neg hc88_42]).symm.trans (own_law p1 p2)), N47⟩
    · by_cases hc30_49 : (p1 &&& (3 : Int32)) = (0 : Int32)
      · obtain ⟨T50, X50, e50, st50⟩ := getS2 X0 hx hZ hown (host := "") (Or.inl (hw _ (List.mem_of_getElem? (i := 0) rfl))) Via.refl e0 S_AND (g := (mkF m 33 #[.val (.int p1), .val (.int p2), .val (.int (p1 &&& (3 : Int32))), .val (.int (1 : Int32)), .val (.int (1 : Int32)), .unset, .unset] [])) rfl (hb hby at_33)
        obtain ⟨cq51, kq51, q51a, q51b, q51c⟩ := isOf hZ e50 E_AND
        obtain ⟨_, _, ⟨T51, L51, k51, n51⟩, -, X51, ⟨Lc51, hQ51, l51, y51, z51⟩, st51⟩ := X50.virtualBack hx (y := (⟨"com/example/bitweave/bitweave/SetOperation", "keeps", "(ZZ)Z"⟩ : MethodName)) (z := (⟨"com/example/bitweave/bitweave/SetOperation", "keeps", "(ZZ)Z"⟩ : MethodName)) hown (mvT hZ (hw _ (List.mem_of_getElem? (i := 3) rfl))) (mvT hZ (hw _ (List.mem_of_getElem? (i := 4) rfl))) (notFace_of_selects (args := #[]) (mvT hZ (hw _ (List.mem_of_getElem? (i := 6) rfl)))) (mvT hZ (hw _ (List.mem_of_getElem? (i := 6) rfl))) (mvT hZ (hw _ (List.mem_of_getElem? (i := 5) rfl))) (by decide) (backOf (W := 0) (rm1 l Z a0 hw [] r_AND (1 : Int32) (1 : Int32) (0 : Int32) (0 : Int32) (1 : Int32) h0 n0 Z0 F_AND_0 F_AND_1 F_AND_2) hZ (hw _ (List.mem_of_getElem? (i := 7) rfl)) (hw _ (List.mem_of_getElem? (i := 1) rfl)) (by decide) (by decide)) q51a q51c (g := (mkF m 138 #[.val (.int p1), .val (.int p2), .val (.int (p1 &&& (3 : Int32))), .val (.int (1 : Int32)), .val (.int (1 : Int32)), .val (.ref r_AND), .val (.int (1 : Int32))] [(.int (1 : Int32)), (.int (1 : Int32)), (.ref r_AND)])) rfl (by rw [hml]; rfl) (Steps.refl _) (argsL := [(.int (1 : Int32)), (.int (1 : Int32))]) (rest := []) (lenOf pd_1 rfl) rfl (by show 2 * 0 + _ ≤ _; exact Nat.le_of_eq rfl) (hb hby at_138) (fun _ _ => ⟨rfl, e50, (by decide : 0 + 0 ≤ _), (by decide : 0 + 0 ≤ _)⟩)
        dsimp only [Pt.U, Pt.locs, Pt.cells, Pt.slots] at X51 l51 y51 z51 st51 hQ51
        subst l51 y51 z51
        obtain ⟨rfl, N51q, e51⟩ := hQ51
        have N51 := Fr.app N0 N51q
        obtain ⟨fs, hr, hrun, hended, hW, hsame⟩ := X51.leave (v := some (.int (if (F1 (1 : Int32) (1 : Int32) (0 : Int32) (0 : Int32) (1 : Int32)) = (1 : Int32) then (1 : Int32) else (0 : Int32)))) (fun h => by rw [Bd.returns] at h; cases h)
        refine ⟨_, _, pre0 _ ?_, hrun, hended, _, _, rfl, ?_, ⟨_, rfl⟩, hW, hsame.mono (by decide) (by decide)⟩
        · show Steps p.tables e below (s₁.setTop (mkF m 0 #[.val (.int p1), .val (.int p2), .unset, .unset, .unset, .unset, .unset] [])) _
          refine XS.iloadN X0.here hx rfl (hb hby at_0) rfl ?_
          show Steps p.tables e below (s₁.setTop (mkF m 1 #[.val (.int p1), .val (.int p2), .unset, .unset, .unset, .unset, .unset] [(.int p1)])) _
          refine XS.iconst X0.here hx rfl (hb hby at_1) ?_
          show Steps p.tables e below (s₁.setTop (mkF m 2 #[.val (.int p1), .val (.int p2), .unset, .unset, .unset, .unset, .unset] [(.int (3 : Int32)), (.int p1)])) _
          refine XS.iand X0.here hx rfl (hb hby at_2) rfl ?_
          show Steps p.tables e below (s₁.setTop (mkF m 3 #[.val (.int p1), .val (.int p2), .unset, .unset, .unset, .unset, .unset] [(.int (p1 &&& (3 : Int32)))])) _
          refine XS.istoreN X0.here hx rfl (hb hby at_3) rfl (l' := #[.val (.int p1), .val (.int p2), .val (.int (p1 &&& (3 : Int32))), .unset, .unset, .unset, .unset]) rfl ?_
          show Steps p.tables e below (s₁.setTop (mkF m 4 #[.val (.int p1), .val (.int p2), .val (.int (p1 &&& (3 : Int32))), .unset, .unset, .unset, .unset] [])) _
          refine XS.iloadN X0.here hx rfl (hb hby at_4) rfl ?_
          show Steps p.tables e below (s₁.setTop (mkF m 5 #[.val (.int p1), .val (.int p2), .val (.int (p1 &&& (3 : Int32))), .unset, .unset, .unset, .unset] [(.int p2)])) _
          refine XS.iconst X0.here hx rfl (hb hby at_5) ?_
          show Steps p.tables e below (s₁.setTop (mkF m 6 #[.val (.int p1), .val (.int p2), .val (.int (p1 &&& (3 : Int32))), .unset, .unset, .unset, .unset] [(.int (1 : Int32)), (.int p2)])) _
          refine XS.iand X0.here hx rfl (hb hby at_6) rfl ?_
          show Steps p.tables e below (s₁.setTop (mkF m 7 #[.val (.int p1), .val (.int p2), .val (.int (p1 &&& (3 : Int32))), .unset, .unset, .unset, .unset] [(.int (p2 &&& (1 : Int32)))])) _
          refine XS.ifNo X0.here hx rfl (hb hby at_7) rfl ((if0 _ _).trans (feq hc7_1).1) ?_
          show Steps p.tables e below (s₁.setTop (mkF m 10 #[.val (.int p1), .val (.int p2), .val (.int (p1 &&& (3 : Int32))), .unset, .unset, .unset, .unset] [])) _
          refine XS.iconst X0.here hx rfl (hb hby at_10) ?_
          show Steps p.tables e below (s₁.setTop (mkF m 11 #[.val (.int p1), .val (.int p2), .val (.int (p1 &&& (3 : Int32))), .unset, .unset, .unset, .unset] [(.int (1 : Int32))])) _
          refine XS.goto X0.here hx rfl (pc0 := 11) (pc' := 15) rfl (hb hby at_11) (by decide) (by decide) ?_
          show Steps p.tables e below (s₁.setTop (mkF m 15 #[.val (.int p1), .val (.int p2), .val (.int (p1 &&& (3 : Int32))), .unset, .unset, .unset, .unset] [(.int (1 : Int32))])) _
          refine XS.istoreN X0.here hx rfl (hb hby at_15) rfl (l' := #[.val (.int p1), .val (.int p2), .val (.int (p1 &&& (3 : Int32))), .val (.int (1 : Int32)), .unset, .unset, .unset]) rfl ?_
          show Steps p.tables e below (s₁.setTop (mkF m 16 #[.val (.int p1), .val (.int p2), .val (.int (p1 &&& (3 : Int32))), .val (.int (1 : Int32)), .unset, .unset, .unset] [])) _
          refine XS.iloadN X0.here hx rfl (hb hby at_16) rfl ?_
          show Steps p.tables e below (s₁.setTop (mkF m 17 #[.val (.int p1), .val (.int p2), .val (.int (p1 &&& (3 : Int32))), .val (.int (1 : Int32)), .unset, .unset, .unset] [(.int p2)])) _
          refine XS.iconst X0.here hx rfl (hb hby at_17) ?_
          show Steps p.tables e below (s₁.setTop (mkF m 18 #[.val (.int p1), .val (.int p2), .val (.int (p1 &&& (3 : Int32))), .val (.int (1 : Int32)), .unset, .unset, .unset] [(.int (2 : Int32)), (.int p2)])) _
          refine XS.iand X0.here hx rfl (hb hby at_18) rfl ?_
          show Steps p.tables e below (s₁.setTop (mkF m 19 #[.val (.int p1), .val (.int p2), .val (.int (p1 &&& (3 : Int32))), .val (.int (1 : Int32)), .unset, .unset, .unset] [(.int (p2 &&& (2 : Int32)))])) _
          refine XS.ifNo X0.here hx rfl (hb hby at_19) rfl ((if0 _ _).trans (feq hc19_33).1) ?_
          show Steps p.tables e below (s₁.setTop (mkF m 22 #[.val (.int p1), .val (.int p2), .val (.int (p1 &&& (3 : Int32))), .val (.int (1 : Int32)), .unset, .unset, .unset] [])) _
          refine XS.iconst X0.here hx rfl (hb hby at_22) ?_
          show Steps p.tables e below (s₁.setTop (mkF m 23 #[.val (.int p1), .val (.int p2), .val (.int (p1 &&& (3 : Int32))), .val (.int (1 : Int32)), .unset, .unset, .unset] [(.int (1 : Int32))])) _
          refine XS.goto X0.here hx rfl (pc0 := 23) (pc' := 27) rfl (hb hby at_23) (by decide) (by decide) ?_
          show Steps p.tables e below (s₁.setTop (mkF m 27 #[.val (.int p1), .val (.int p2), .val (.int (p1 &&& (3 : Int32))), .val (.int (1 : Int32)), .unset, .unset, .unset] [(.int (1 : Int32))])) _
          refine XS.istore X0.here hx rfl (hb hby at_27) rfl (l' := #[.val (.int p1), .val (.int p2), .val (.int (p1 &&& (3 : Int32))), .val (.int (1 : Int32)), .val (.int (1 : Int32)), .unset, .unset]) rfl ?_
          show Steps p.tables e below (s₁.setTop (mkF m 29 #[.val (.int p1), .val (.int p2), .val (.int (p1 &&& (3 : Int32))), .val (.int (1 : Int32)), .val (.int (1 : Int32)), .unset, .unset] [])) _
          refine XS.iloadN X0.here hx rfl (hb hby at_29) rfl ?_
          show Steps p.tables e below (s₁.setTop (mkF m 30 #[.val (.int p1), .val (.int p2), .val (.int (p1 &&& (3 : Int32))), .val (.int (1 : Int32)), .val (.int (1 : Int32)), .unset, .unset] [(.int (p1 &&& (3 : Int32)))])) _
          refine XS.ifNo X0.here hx rfl (hb hby at_30) rfl ((if0 _ _).trans (teq hc30_49).2) ?_
          show Steps p.tables e below (s₁.setTop (mkF m 33 #[.val (.int p1), .val (.int p2), .val (.int (p1 &&& (3 : Int32))), .val (.int (1 : Int32)), .val (.int (1 : Int32)), .unset, .unset] [])) _
          refine st50 _ ?_
          show Steps p.tables e below (T50.setTop (mkF m 36 #[.val (.int p1), .val (.int p2), .val (.int (p1 &&& (3 : Int32))), .val (.int (1 : Int32)), .val (.int (1 : Int32)), .unset, .unset] [(.ref r_AND)])) _
          refine XS.astore X50.here hx rfl (hb hby at_36) rfl rfl (l' := #[.val (.int p1), .val (.int p2), .val (.int (p1 &&& (3 : Int32))), .val (.int (1 : Int32)), .val (.int (1 : Int32)), .val (.ref r_AND), .unset]) rfl ?_
          show Steps p.tables e below (T50.setTop (mkF m 38 #[.val (.int p1), .val (.int p2), .val (.int (p1 &&& (3 : Int32))), .val (.int (1 : Int32)), .val (.int (1 : Int32)), .val (.ref r_AND), .unset] [])) _
          refine XS.iloadN X50.here hx rfl (hb hby at_38) rfl ?_
          show Steps p.tables e below (T50.setTop (mkF m 39 #[.val (.int p1), .val (.int p2), .val (.int (p1 &&& (3 : Int32))), .val (.int (1 : Int32)), .val (.int (1 : Int32)), .val (.ref r_AND), .unset] [(.int (1 : Int32))])) _
          refine XS.ifNo X50.here hx rfl (hb hby at_39) rfl ((if0 _ _).trans (feq (by decide : ¬ ((1 : Int32) = (0 : Int32)))).1) ?_
          show Steps p.tables e below (T50.setTop (mkF m 42 #[.val (.int p1), .val (.int p2), .val (.int (p1 &&& (3 : Int32))), .val (.int (1 : Int32)), .val (.int (1 : Int32)), .val (.ref r_AND), .unset] [])) _
          refine XS.iload X50.here hx rfl (hb hby at_42) rfl ?_
          show Steps p.tables e below (T50.setTop (mkF m 44 #[.val (.int p1), .val (.int p2), .val (.int (p1 &&& (3 : Int32))), .val (.int (1 : Int32)), .val (.int (1 : Int32)), .val (.ref r_AND), .unset] [(.int (1 : Int32))])) _
          refine XS.ifNo X50.here hx rfl (hb hby at_44) rfl ((if0 _ _).trans (feq (by decide : ¬ ((1 : Int32) = (0 : Int32)))).1) ?_
          show Steps p.tables e below (T50.setTop (mkF m 47 #[.val (.int p1), .val (.int p2), .val (.int (p1 &&& (3 : Int32))), .val (.int (1 : Int32)), .val (.int (1 : Int32)), .val (.ref r_AND), .unset] [])) _
          refine XS.iconst X50.here hx rfl (hb hby at_47) ?_
          show Steps p.tables e below (T50.setTop (mkF m 48 #[.val (.int p1), .val (.int p2), .val (.int (p1 &&& (3 : Int32))), .val (.int (1 : Int32)), .val (.int (1 : Int32)), .val (.ref r_AND), .unset] [(.int (1 : Int32))])) _
          refine XS.goto X50.here hx rfl (pc0 := 48) (pc' := 52) rfl (hb hby at_48) (by decide) (by decide) ?_
          show Steps p.tables e below (T50.setTop (mkF m 52 #[.val (.int p1), .val (.int p2), .val (.int (p1 &&& (3 : Int32))), .val (.int (1 : Int32)), .val (.int (1 : Int32)), .val (.ref r_AND), .unset] [(.int (1 : Int32))])) _
          refine XS.istore X50.here hx rfl (hb hby at_52) rfl (l' := #[.val (.int p1), .val (.int p2), .val (.int (p1 &&& (3 : Int32))), .val (.int (1 : Int32)), .val (.int (1 : Int32)), .val (.ref r_AND), .val (.int (1 : Int32))]) rfl ?_
          show Steps p.tables e below (T50.setTop (mkF m 54 #[.val (.int p1), .val (.int p2), .val (.int (p1 &&& (3 : Int32))), .val (.int (1 : Int32)), .val (.int (1 : Int32)), .val (.ref r_AND), .val (.int (1 : Int32))] [])) _
          refine XS.goto X50.here hx rfl (pc0 := 54) (pc' := 133) rfl (hb hby at_54) (by decide) (by decide) ?_
          show Steps p.tables e below (T50.setTop (mkF m 133 #[.val (.int p1), .val (.int p2), .val (.int (p1 &&& (3 : Int32))), .val (.int (1 : Int32)), .val (.int (1 : Int32)), .val (.ref r_AND), .val (.int (1 : Int32))] [])) _
          refine XS.aload X50.here hx rfl (hb hby at_133) rfl rfl ?_
          show Steps p.tables e below (T50.setTop (mkF m 135 #[.val (.int p1), .val (.int p2), .val (.int (p1 &&& (3 : Int32))), .val (.int (1 : Int32)), .val (.int (1 : Int32)), .val (.ref r_AND), .val (.int (1 : Int32))] [(.ref r_AND)])) _
          refine XS.iloadN X50.here hx rfl (hb hby at_135) rfl ?_
          show Steps p.tables e below (T50.setTop (mkF m 136 #[.val (.int p1), .val (.int p2), .val (.int (p1 &&& (3 : Int32))), .val (.int (1 : Int32)), .val (.int (1 : Int32)), .val (.ref r_AND), .val (.int (1 : Int32))] [(.int (1 : Int32)), (.ref r_AND)])) _
          refine XS.iload X50.here hx rfl (hb hby at_136) rfl ?_
          show Steps p.tables e below (T50.setTop (mkF m 138 #[.val (.int p1), .val (.int p2), .val (.int (p1 &&& (3 : Int32))), .val (.int (1 : Int32)), .val (.int (1 : Int32)), .val (.ref r_AND), .val (.int (1 : Int32))] [(.int (1 : Int32)), (.int (1 : Int32)), (.ref r_AND)])) _
          refine st51.trans ?_
          show Steps p.tables e below (T51.setTop (mkF m 141 #[.val (.int p1), .val (.int p2), .val (.int (p1 &&& (3 : Int32))), .val (.int (1 : Int32)), .val (.int (1 : Int32)), .val (.ref r_AND), .val (.int (1 : Int32))] [(.int (F1 (1 : Int32) (1 : Int32) (0 : Int32) (0 : Int32) (1 : Int32)))])) _
          refine XS.iload X51.here hx rfl (hb hby at_141) rfl ?_
          show Steps p.tables e below (T51.setTop (mkF m 143 #[.val (.int p1), .val (.int p2), .val (.int (p1 &&& (3 : Int32))), .val (.int (1 : Int32)), .val (.int (1 : Int32)), .val (.ref r_AND), .val (.int (1 : Int32))] [(.int (1 : Int32)), (.int (F1 (1 : Int32) (1 : Int32) (0 : Int32) (0 : Int32) (1 : Int32)))])) _
          by_cases hc143_52 : (F1 (1 : Int32) (1 : Int32) (0 : Int32) (0 : Int32) (1 : Int32)) = (1 : Int32)
          · refine XS.icmpNo X51.here hx rfl (hb hby at_143) rfl (teq hc143_52).2 ?_
            show Steps p.tables e below (T51.setTop (mkF m 146 #[.val (.int p1), .val (.int p2), .val (.int (p1 &&& (3 : Int32))), .val (.int (1 : Int32)), .val (.int (1 : Int32)), .val (.ref r_AND), .val (.int (1 : Int32))] [])) _
            refine XS.iconst X51.here hx rfl (hb hby at_146) ?_
            show Steps p.tables e below (T51.setTop (mkF m 147 #[.val (.int p1), .val (.int p2), .val (.int (p1 &&& (3 : Int32))), .val (.int (1 : Int32)), .val (.int (1 : Int32)), .val (.ref r_AND), .val (.int (1 : Int32))] [(.int (1 : Int32))])) _
            refine XS.goto X51.here hx rfl (pc0 := 147) (pc' := 151) rfl (hb hby at_147) (by decide) (by decide) ?_
            show Steps p.tables e below (T51.setTop (mkF m 151 #[.val (.int p1), .val (.int p2), .val (.int (p1 &&& (3 : Int32))), .val (.int (1 : Int32)), .val (.int (1 : Int32)), .val (.ref r_AND), .val (.int (1 : Int32))] [(.int (1 : Int32))])) _
            rw [if_pos hc143_52] at hr
            exact retN X51 hx (t := .boolean) Bd.returns (by simp) (hb hby at_151) hr
          · refine XS.icmpYes X51.here hx rfl (pc0 := 143) (pc' := 150) rfl (hb hby at_143) rfl (feq hc143_52).2 (by decide) (by decide) ?_
            show Steps p.tables e below (T51.setTop (mkF m 150 #[.val (.int p1), .val (.int p2), .val (.int (p1 &&& (3 : Int32))), .val (.int (1 : Int32)), .val (.int (1 : Int32)), .val (.ref r_AND), .val (.int (1 : Int32))] [])) _
            refine XS.iconst X51.here hx rfl (hb hby at_150) ?_
            show Steps p.tables e below (T51.setTop (mkF m 151 #[.val (.int p1), .val (.int p2), .val (.int (p1 &&& (3 : Int32))), .val (.int (1 : Int32)), .val (.int (1 : Int32)), .val (.ref r_AND), .val (.int (1 : Int32))] [(.int (0 : Int32))])) _
            rw [if_neg hc143_52] at hr
            exact retN X51 hx (t := .boolean) Bd.returns (by simp) (hb hby at_151) hr
        · show Q0 Z p1 p2 r_AND r_OR r_XOR r_AND_NOT h0 n0 _ T51.heap _
          rw [e51]
          exact ⟨congrArg (fun z => some (Value.int z)) ((show F0 p1 p2 = (if (F1 (1 : Int32) (1 : Int32) (0 : Int32) (0 : Int32) (1 : Int32)) = (1 : Int32) then (1 : Int32) else (0 : Int32)) by rw [F0, if_neg hc7_1, if_neg hc19_33, if_pos hc30_49]).symm.trans (own_law p1 p2)), N51⟩
      · by_cases hc59_53 : (p1 &&& (3 : Int32)) = (1 : Int32)
        · obtain ⟨T54, X54, e54, st54⟩ := getS2 X0 hx hZ hown (host := "") (Or.inl (hw _ (List.mem_of_getElem? (i := 14) rfl))) Via.refl e0 S_OR (g := (mkF m 62 #[.val (.int p1), .val (.int p2), .val (.int (p1 &&& (3 : Int32))), .val (.int (1 : Int32)), .val (.int (1 : Int32)), .unset, .unset] [])) rfl (hb hby at_62)
          obtain ⟨cq55, kq55, q55a, q55b, q55c⟩ := isOf hZ e54 E_OR
          obtain ⟨_, _, ⟨T55, L55, k55, n55⟩, -, X55, ⟨Lc55, hQ55, l55, y55, z55⟩, st55⟩ := X54.virtualBack hx (y := (⟨"com/example/bitweave/bitweave/SetOperation", "keeps", "(ZZ)Z"⟩ : MethodName)) (z := (⟨"com/example/bitweave/bitweave/SetOperation", "keeps", "(ZZ)Z"⟩ : MethodName)) hown (mvT hZ (hw _ (List.mem_of_getElem? (i := 3) rfl))) (mvT hZ (hw _ (List.mem_of_getElem? (i := 4) rfl))) (notFace_of_selects (args := #[]) (mvT hZ (hw _ (List.mem_of_getElem? (i := 6) rfl)))) (mvT hZ (hw _ (List.mem_of_getElem? (i := 6) rfl))) (mvT hZ (hw _ (List.mem_of_getElem? (i := 5) rfl))) (by decide) (backOf (W := 0) (rm1 l Z a0 hw [] r_OR (1 : Int32) (1 : Int32) (1 : Int32) (1 : Int32) (1 : Int32) h0 n0 Z0 F_OR_0 F_OR_1 F_OR_2) hZ (hw _ (List.mem_of_getElem? (i := 7) rfl)) (hw _ (List.mem_of_getElem? (i := 1) rfl)) (by decide) (by decide)) q55a q55c (g := (mkF m 138 #[.val (.int p1), .val (.int p2), .val (.int (p1 &&& (3 : Int32))), .val (.int (1 : Int32)), .val (.int (1 : Int32)), .val (.ref r_OR), .val (.int (1 : Int32))] [(.int (1 : Int32)), (.int (1 : Int32)), (.ref r_OR)])) rfl (by rw [hml]; rfl) (Steps.refl _) (argsL := [(.int (1 : Int32)), (.int (1 : Int32))]) (rest := []) (lenOf pd_1 rfl) rfl (by show 2 * 0 + _ ≤ _; exact Nat.le_of_eq rfl) (hb hby at_138) (fun _ _ => ⟨rfl, e54, (by decide : 0 + 0 ≤ _), (by decide : 0 + 0 ≤ _)⟩)
          dsimp only [Pt.U, Pt.locs, Pt.cells, Pt.slots] at X55 l55 y55 z55 st55 hQ55
          subst l55 y55 z55
          obtain ⟨rfl, N55q, e55⟩ := hQ55
          have N55 := Fr.app N0 N55q
          obtain ⟨fs, hr, hrun, hended, hW, hsame⟩ := X55.leave (v := some (.int (if (F1 (1 : Int32) (1 : Int32) (1 : Int32) (1 : Int32) (1 : Int32)) = (1 : Int32) then (1 : Int32) else (0 : Int32)))) (fun h => by rw [Bd.returns] at h; cases h)
          refine ⟨_, _, pre0 _ ?_, hrun, hended, _, _, rfl, ?_, ⟨_, rfl⟩, hW, hsame.mono (by decide) (by decide)⟩
          · show Steps p.tables e below (s₁.setTop (mkF m 0 #[.val (.int p1), .val (.int p2), .unset, .unset, .unset, .unset, .unset] [])) _
            refine XS.iloadN X0.here hx rfl (hb hby at_0) rfl ?_
            show Steps p.tables e below (s₁.setTop (mkF m 1 #[.val (.int p1), .val (.int p2), .unset, .unset, .unset, .unset, .unset] [(.int p1)])) _
            refine XS.iconst X0.here hx rfl (hb hby at_1) ?_
            show Steps p.tables e below (s₁.setTop (mkF m 2 #[.val (.int p1), .val (.int p2), .unset, .unset, .unset, .unset, .unset] [(.int (3 : Int32)), (.int p1)])) _
            refine XS.iand X0.here hx rfl (hb hby at_2) rfl ?_
            show Steps p.tables e below (s₁.setTop (mkF m 3 #[.val (.int p1), .val (.int p2), .unset, .unset, .unset, .unset, .unset] [(.int (p1 &&& (3 : Int32)))])) _
            refine XS.istoreN X0.here hx rfl (hb hby at_3) rfl (l' := #[.val (.int p1), .val (.int p2), .val (.int (p1 &&& (3 : Int32))), .unset, .unset, .unset, .unset]) rfl ?_
            show Steps p.tables e below (s₁.setTop (mkF m 4 #[.val (.int p1), .val (.int p2), .val (.int (p1 &&& (3 : Int32))), .unset, .unset, .unset, .unset] [])) _
            refine XS.iloadN X0.here hx rfl (hb hby at_4) rfl ?_
            show Steps p.tables e below (s₁.setTop (mkF m 5 #[.val (.int p1), .val (.int p2), .val (.int (p1 &&& (3 : Int32))), .unset, .unset, .unset, .unset] [(.int p2)])) _
            refine XS.iconst X0.here hx rfl (hb hby at_5) ?_
            show Steps p.tables e below (s₁.setTop (mkF m 6 #[.val (.int p1), .val (.int p2), .val (.int (p1 &&& (3 : Int32))), .unset, .unset, .unset, .unset] [(.int (1 : Int32)), (.int p2)])) _
            refine XS.iand X0.here hx rfl (hb hby at_6) rfl ?_
            show Steps p.tables e below (s₁.setTop (mkF m 7 #[.val (.int p1), .val (.int p2), .val (.int (p1 &&& (3 : Int32))), .unset, .unset, .unset, .unset] [(.int (p2 &&& (1 : Int32)))])) _
            refine XS.ifNo X0.here hx rfl (hb hby at_7) rfl ((if0 _ _).trans (feq hc7_1).1) ?_
            show Steps p.tables e below (s₁.setTop (mkF m 10 #[.val (.int p1), .val (.int p2), .val (.int (p1 &&& (3 : Int32))), .unset, .unset, .unset, .unset] [])) _
            refine XS.iconst X0.here hx rfl (hb hby at_10) ?_
            show Steps p.tables e below (s₁.setTop (mkF m 11 #[.val (.int p1), .val (.int p2), .val (.int (p1 &&& (3 : Int32))), .unset, .unset, .unset, .unset] [(.int (1 : Int32))])) _
            refine XS.goto X0.here hx rfl (pc0 := 11) (pc' := 15) rfl (hb hby at_11) (by decide) (by decide) ?_
            show Steps p.tables e below (s₁.setTop (mkF m 15 #[.val (.int p1), .val (.int p2), .val (.int (p1 &&& (3 : Int32))), .unset, .unset, .unset, .unset] [(.int (1 : Int32))])) _
            refine XS.istoreN X0.here hx rfl (hb hby at_15) rfl (l' := #[.val (.int p1), .val (.int p2), .val (.int (p1 &&& (3 : Int32))), .val (.int (1 : Int32)), .unset, .unset, .unset]) rfl ?_
            show Steps p.tables e below (s₁.setTop (mkF m 16 #[.val (.int p1), .val (.int p2), .val (.int (p1 &&& (3 : Int32))), .val (.int (1 : Int32)), .unset, .unset, .unset] [])) _
            refine XS.iloadN X0.here hx rfl (hb hby at_16) rfl ?_
            show Steps p.tables e below (s₁.setTop (mkF m 17 #[.val (.int p1), .val (.int p2), .val (.int (p1 &&& (3 : Int32))), .val (.int (1 : Int32)), .unset, .unset, .unset] [(.int p2)])) _
            refine XS.iconst X0.here hx rfl (hb hby at_17) ?_
            show Steps p.tables e below (s₁.setTop (mkF m 18 #[.val (.int p1), .val (.int p2), .val (.int (p1 &&& (3 : Int32))), .val (.int (1 : Int32)), .unset, .unset, .unset] [(.int (2 : Int32)), (.int p2)])) _
            refine XS.iand X0.here hx rfl (hb hby at_18) rfl ?_
            show Steps p.tables e below (s₁.setTop (mkF m 19 #[.val (.int p1), .val (.int p2), .val (.int (p1 &&& (3 : Int32))), .val (.int (1 : Int32)), .unset, .unset, .unset] [(.int (p2 &&& (2 : Int32)))])) _
            refine XS.ifNo X0.here hx rfl (hb hby at_19) rfl ((if0 _ _).trans (feq hc19_33).1) ?_
            show Steps p.tables e below (s₁.setTop (mkF m 22 #[.val (.int p1), .val (.int p2), .val (.int (p1 &&& (3 : Int32))), .val (.int (1 : Int32)), .unset, .unset, .unset] [])) _
            refine XS.iconst X0.here hx rfl (hb hby at_22) ?_
            show Steps p.tables e below (s₁.setTop (mkF m 23 #[.val (.int p1), .val (.int p2), .val (.int (p1 &&& (3 : Int32))), .val (.int (1 : Int32)), .unset, .unset, .unset] [(.int (1 : Int32))])) _
            refine XS.goto X0.here hx rfl (pc0 := 23) (pc' := 27) rfl (hb hby at_23) (by decide) (by decide) ?_
            show Steps p.tables e below (s₁.setTop (mkF m 27 #[.val (.int p1), .val (.int p2), .val (.int (p1 &&& (3 : Int32))), .val (.int (1 : Int32)), .unset, .unset, .unset] [(.int (1 : Int32))])) _
            refine XS.istore X0.here hx rfl (hb hby at_27) rfl (l' := #[.val (.int p1), .val (.int p2), .val (.int (p1 &&& (3 : Int32))), .val (.int (1 : Int32)), .val (.int (1 : Int32)), .unset, .unset]) rfl ?_
            show Steps p.tables e below (s₁.setTop (mkF m 29 #[.val (.int p1), .val (.int p2), .val (.int (p1 &&& (3 : Int32))), .val (.int (1 : Int32)), .val (.int (1 : Int32)), .unset, .unset] [])) _
            refine XS.iloadN X0.here hx rfl (hb hby at_29) rfl ?_
            show Steps p.tables e below (s₁.setTop (mkF m 30 #[.val (.int p1), .val (.int p2), .val (.int (p1 &&& (3 : Int32))), .val (.int (1 : Int32)), .val (.int (1 : Int32)), .unset, .unset] [(.int (p1 &&& (3 : Int32)))])) _
            refine XS.ifYes X0.here hx rfl (pc0 := 30) (pc' := 57) rfl (hb hby at_30) rfl ((if0 _ _).trans (feq hc30_49).2) (by decide) (by decide) ?_
            show Steps p.tables e below (s₁.setTop (mkF m 57 #[.val (.int p1), .val (.int p2), .val (.int (p1 &&& (3 : Int32))), .val (.int (1 : Int32)), .val (.int (1 : Int32)), .unset, .unset] [])) _
            refine XS.iloadN X0.here hx rfl (hb hby at_57) rfl ?_
            show Steps p.tables e below (s₁.setTop (mkF m 58 #[.val (.int p1), .val (.int p2), .val (.int (p1 &&& (3 : Int32))), .val (.int (1 : Int32)), .val (.int (1 : Int32)), .unset, .unset] [(.int (p1 &&& (3 : Int32)))])) _
            refine XS.iconst X0.here hx rfl (hb hby at_58) ?_
            show Steps p.tables e below (s₁.setTop (mkF m 59 #[.val (.int p1), .val (.int p2), .val (.int (p1 &&& (3 : Int32))), .val (.int (1 : Int32)), .val (.int (1 : Int32)), .unset, .unset] [(.int (1 : Int32)), (.int (p1 &&& (3 : Int32)))])) _
            refine XS.icmpNo X0.here hx rfl (hb hby at_59) rfl (teq hc59_53).2 ?_
            show Steps p.tables e below (s₁.setTop (mkF m 62 #[.val (.int p1), .val (.int p2), .val (.int (p1 &&& (3 : Int32))), .val (.int (1 : Int32)), .val (.int (1 : Int32)), .unset, .unset] [])) _
            refine st54 _ ?_
            show Steps p.tables e below (T54.setTop (mkF m 65 #[.val (.int p1), .val (.int p2), .val (.int (p1 &&& (3 : Int32))), .val (.int (1 : Int32)), .val (.int (1 : Int32)), .unset, .unset] [(.ref r_OR)])) _
            refine XS.astore X54.here hx rfl (hb hby at_65) rfl rfl (l' := #[.val (.int p1), .val (.int p2), .val (.int (p1 &&& (3 : Int32))), .val (.int (1 : Int32)), .val (.int (1 : Int32)), .val (.ref r_OR), .unset]) rfl ?_
            show Steps p.tables e below (T54.setTop (mkF m 67 #[.val (.int p1), .val (.int p2), .val (.int (p1 &&& (3 : Int32))), .val (.int (1 : Int32)), .val (.int (1 : Int32)), .val (.ref r_OR), .unset] [])) _
            refine XS.iloadN X54.here hx rfl (hb hby at_67) rfl ?_
            show Steps p.tables e below (T54.setTop (mkF m 68 #[.val (.int p1), .val (.int p2), .val (.int (p1 &&& (3 : Int32))), .val (.int (1 : Int32)), .val (.int (1 : Int32)), .val (.ref r_OR), .unset] [(.int (1 : Int32))])) _
            refine XS.ifYes X54.here hx rfl (pc0 := 68) (pc' := 76) rfl (hb hby at_68) rfl ((if0 _ _).trans (feq (by decide : ¬ ((1 : Int32) = (0 : Int32)))).2) (by decide) (by decide) ?_
            show Steps p.tables e below (T54.setTop (mkF m 76 #[.val (.int p1), .val (.int p2), .val (.int (p1 &&& (3 : Int32))), .val (.int (1 : Int32)), .val (.int (1 : Int32)), .val (.ref r_OR), .unset] [])) _
            refine XS.iconst X54.here hx rfl (hb hby at_76) ?_
            show Steps p.tables e below (T54.setTop (mkF m 77 #[.val (.int p1), .val (.int p2), .val (.int (p1 &&& (3 : Int32))), .val (.int (1 : Int32)), .val (.int (1 : Int32)), .val (.ref r_OR), .unset] [(.int (1 : Int32))])) _
            refine XS.goto X54.here hx rfl (pc0 := 77) (pc' := 81) rfl (hb hby at_77) (by decide) (by decide) ?_
            show Steps p.tables e below (T54.setTop (mkF m 81 #[.val (.int p1), .val (.int p2), .val (.int (p1 &&& (3 : Int32))), .val (.int (1 : Int32)), .val (.int (1 : Int32)), .val (.ref r_OR), .unset] [(.int (1 : Int32))])) _
            refine XS.istore X54.here hx rfl (hb hby at_81) rfl (l' := #[.val (.int p1), .val (.int p2), .val (.int (p1 &&& (3 : Int32))), .val (.int (1 : Int32)), .val (.int (1 : Int32)), .val (.ref r_OR), .val (.int (1 : Int32))]) rfl ?_
            show Steps p.tables e below (T54.setTop (mkF m 83 #[.val (.int p1), .val (.int p2), .val (.int (p1 &&& (3 : Int32))), .val (.int (1 : Int32)), .val (.int (1 : Int32)), .val (.ref r_OR), .val (.int (1 : Int32))] [])) _
            refine XS.goto X54.here hx rfl (pc0 := 83) (pc' := 133) rfl (hb hby at_83) (by decide) (by decide) ?_
            show Steps p.tables e below (T54.setTop (mkF m 133 #[.val (.int p1), .val (.int p2), .val (.int (p1 &&& (3 : Int32))), .val (.int (1 : Int32)), .val (.int (1 : Int32)), .val (.ref r_OR), .val (.int (1 : Int32))] [])) _
            refine XS.aload X54.here hx rfl (hb hby at_133) rfl rfl ?_
            show Steps p.tables e below (T54.setTop (mkF m 135 #[.val (.int p1), .val (.int p2), .val (.int (p1 &&& (3 : Int32))), .val (.int (1 : Int32)), .val (.int (1 : Int32)), .val (.ref r_OR), .val (.int (1 : Int32))] [(.ref r_OR)])) _
            refine XS.iloadN X54.here hx rfl (hb hby at_135) rfl ?_
            show Steps p.tables e below (T54.setTop (mkF m 136 #[.val (.int p1), .val (.int p2), .val (.int (p1 &&& (3 : Int32))), .val (.int (1 : Int32)), .val (.int (1 : Int32)), .val (.ref r_OR), .val (.int (1 : Int32))] [(.int (1 : Int32)), (.ref r_OR)])) _
            refine XS.iload X54.here hx rfl (hb hby at_136) rfl ?_
            show Steps p.tables e below (T54.setTop (mkF m 138 #[.val (.int p1), .val (.int p2), .val (.int (p1 &&& (3 : Int32))), .val (.int (1 : Int32)), .val (.int (1 : Int32)), .val (.ref r_OR), .val (.int (1 : Int32))] [(.int (1 : Int32)), (.int (1 : Int32)), (.ref r_OR)])) _
            refine st55.trans ?_
            show Steps p.tables e below (T55.setTop (mkF m 141 #[.val (.int p1), .val (.int p2), .val (.int (p1 &&& (3 : Int32))), .val (.int (1 : Int32)), .val (.int (1 : Int32)), .val (.ref r_OR), .val (.int (1 : Int32))] [(.int (F1 (1 : Int32) (1 : Int32) (1 : Int32) (1 : Int32) (1 : Int32)))])) _
            refine XS.iload X55.here hx rfl (hb hby at_141) rfl ?_
            show Steps p.tables e below (T55.setTop (mkF m 143 #[.val (.int p1), .val (.int p2), .val (.int (p1 &&& (3 : Int32))), .val (.int (1 : Int32)), .val (.int (1 : Int32)), .val (.ref r_OR), .val (.int (1 : Int32))] [(.int (1 : Int32)), (.int (F1 (1 : Int32) (1 : Int32) (1 : Int32) (1 : Int32) (1 : Int32)))])) _
            by_cases hc143_56 : (F1 (1 : Int32) (1 : Int32) (1 : Int32) (1 : Int32) (1 : Int32)) = (1 : Int32)
            · refine XS.icmpNo X55.here hx rfl (hb hby at_143) rfl (teq hc143_56).2 ?_
              show Steps p.tables e below (T55.setTop (mkF m 146 #[.val (.int p1), .val (.int p2), .val (.int (p1 &&& (3 : Int32))), .val (.int (1 : Int32)), .val (.int (1 : Int32)), .val (.ref r_OR), .val (.int (1 : Int32))] [])) _
              refine XS.iconst X55.here hx rfl (hb hby at_146) ?_
              show Steps p.tables e below (T55.setTop (mkF m 147 #[.val (.int p1), .val (.int p2), .val (.int (p1 &&& (3 : Int32))), .val (.int (1 : Int32)), .val (.int (1 : Int32)), .val (.ref r_OR), .val (.int (1 : Int32))] [(.int (1 : Int32))])) _
              refine XS.goto X55.here hx rfl (pc0 := 147) (pc' := 151) rfl (hb hby at_147) (by decide) (by decide) ?_
              show Steps p.tables e below (T55.setTop (mkF m 151 #[.val (.int p1), .val (.int p2), .val (.int (p1 &&& (3 : Int32))), .val (.int (1 : Int32)), .val (.int (1 : Int32)), .val (.ref r_OR), .val (.int (1 : Int32))] [(.int (1 : Int32))])) _
              rw [if_pos hc143_56] at hr
              exact retN X55 hx (t := .boolean) Bd.returns (by simp) (hb hby at_151) hr
            · refine XS.icmpYes X55.here hx rfl (pc0 := 143) (pc' := 150) rfl (hb hby at_143) rfl (feq hc143_56).2 (by decide) (by decide) ?_
              show Steps p.tables e below (T55.setTop (mkF m 150 #[.val (.int p1), .val (.int p2), .val (.int (p1 &&& (3 : Int32))), .val (.int (1 : Int32)), .val (.int (1 : Int32)), .val (.ref r_OR), .val (.int (1 : Int32))] [])) _
              refine XS.iconst X55.here hx rfl (hb hby at_150) ?_
              show Steps p.tables e below (T55.setTop (mkF m 151 #[.val (.int p1), .val (.int p2), .val (.int (p1 &&& (3 : Int32))), .val (.int (1 : Int32)), .val (.int (1 : Int32)), .val (.ref r_OR), .val (.int (1 : Int32))] [(.int (0 : Int32))])) _
              rw [if_neg hc143_56] at hr
              exact retN X55 hx (t := .boolean) Bd.returns (by simp) (hb hby at_151) hr
          · show Q0 Z p1 p2 r_AND r_OR r_XOR r_AND_NOT h0 n0 _ T55.heap _
            rw [e55]
            exact ⟨congrArg (fun z => some (Value.int z)) ((show F0 p1 p2 = (if (F1 (1 : Int32) (1 : Int32) (1 : Int32) (1 : Int32) (1 : Int32)) = (1 : Int32) then (1 : Int32) else (0 : Int32)) by rw [F0, if_neg hc7_1, if_neg hc19_33, if_neg hc30_49, if_pos hc59_53]).symm.trans (own_law p1 p2)), N55⟩
        · by_cases hc88_57 : (p1 &&& (3 : Int32)) = (2 : Int32)
          · obtain ⟨T58, X58, e58, st58⟩ := getS2 X0 hx hZ hown (host := "") (Or.inl (hw _ (List.mem_of_getElem? (i := 10) rfl))) Via.refl e0 S_XOR (g := (mkF m 91 #[.val (.int p1), .val (.int p2), .val (.int (p1 &&& (3 : Int32))), .val (.int (1 : Int32)), .val (.int (1 : Int32)), .unset, .unset] [])) rfl (hb hby at_91)
            obtain ⟨cq59, kq59, q59a, q59b, q59c⟩ := isOf hZ e58 E_XOR
            obtain ⟨_, _, ⟨T59, L59, k59, n59⟩, -, X59, ⟨Lc59, hQ59, l59, y59, z59⟩, st59⟩ := X58.virtualBack hx (y := (⟨"com/example/bitweave/bitweave/SetOperation", "keeps", "(ZZ)Z"⟩ : MethodName)) (z := (⟨"com/example/bitweave/bitweave/SetOperation", "keeps", "(ZZ)Z"⟩ : MethodName)) hown (mvT hZ (hw _ (List.mem_of_getElem? (i := 3) rfl))) (mvT hZ (hw _ (List.mem_of_getElem? (i := 4) rfl))) (notFace_of_selects (args := #[]) (mvT hZ (hw _ (List.mem_of_getElem? (i := 6) rfl)))) (mvT hZ (hw _ (List.mem_of_getElem? (i := 6) rfl))) (mvT hZ (hw _ (List.mem_of_getElem? (i := 5) rfl))) (by decide) (backOf (W := 0) (rm1 l Z a0 hw [] r_XOR (1 : Int32) (1 : Int32) (1 : Int32) (1 : Int32) (0 : Int32) h0 n0 Z0 F_XOR_0 F_XOR_1 F_XOR_2) hZ (hw _ (List.mem_of_getElem? (i := 7) rfl)) (hw _ (List.mem_of_getElem? (i := 1) rfl)) (by decide) (by decide)) q59a q59c (g := (mkF m 138 #[.val (.int p1), .val (.int p2), .val (.int (p1 &&& (3 : Int32))), .val (.int (1 : Int32)), .val (.int (1 : Int32)), .val (.ref r_XOR), .val (.int (0 : Int32))] [(.int (1 : Int32)), (.int (1 : Int32)), (.ref r_XOR)])) rfl (by rw [hml]; rfl) (Steps.refl _) (argsL := [(.int (1 : Int32)), (.int (1 : Int32))]) (rest := []) (lenOf pd_1 rfl) rfl (by show 2 * 0 + _ ≤ _; exact Nat.le_of_eq rfl) (hb hby at_138) (fun _ _ => ⟨rfl, e58, (by decide : 0 + 0 ≤ _), (by decide : 0 + 0 ≤ _)⟩)
            dsimp only [Pt.U, Pt.locs, Pt.cells, Pt.slots] at X59 l59 y59 z59 st59 hQ59
            subst l59 y59 z59
            obtain ⟨rfl, N59q, e59⟩ := hQ59
            have N59 := Fr.app N0 N59q
            obtain ⟨fs, hr, hrun, hended, hW, hsame⟩ := X59.leave (v := some (.int (if (F1 (1 : Int32) (1 : Int32) (1 : Int32) (1 : Int32) (0 : Int32)) = (0 : Int32) then (1 : Int32) else (0 : Int32)))) (fun h => by rw [Bd.returns] at h; cases h)
            refine ⟨_, _, pre0 _ ?_, hrun, hended, _, _, rfl, ?_, ⟨_, rfl⟩, hW, hsame.mono (by decide) (by decide)⟩
            · show Steps p.tables e below (s₁.setTop (mkF m 0 #[.val (.int p1), .val (.int p2), .unset, .unset, .unset, .unset, .unset] [])) _
              refine XS.iloadN X0.here hx rfl (hb hby at_0) rfl ?_
              show Steps p.tables e below (s₁.setTop (mkF m 1 #[.val (.int p1), .val (.int p2), .unset, .unset, .unset, .unset, .unset] [(.int p1)])) _
              refine XS.iconst X0.here hx rfl (hb hby at_1) ?_
              show Steps p.tables e below (s₁.setTop (mkF m 2 #[.val (.int p1), .val (.int p2), .unset, .unset, .unset, .unset, .unset] [(.int (3 : Int32)), (.int p1)])) _
              refine XS.iand X0.here hx rfl (hb hby at_2) rfl ?_
              show Steps p.tables e below (s₁.setTop (mkF m 3 #[.val (.int p1), .val (.int p2), .unset, .unset, .unset, .unset, .unset] [(.int (p1 &&& (3 : Int32)))])) _
              refine XS.istoreN X0.here hx rfl (hb hby at_3) rfl (l' := #[.val (.int p1), .val (.int p2), .val (.int (p1 &&& (3 : Int32))), .unset, .unset, .unset, .unset]) rfl ?_
              show Steps p.tables e below (s₁.setTop (mkF m 4 #[.val (.int p1), .val (.int p2), .val (.int (p1 &&& (3 : Int32))), .unset, .unset, .unset, .unset] [])) _
              refine XS.iloadN X0.here hx rfl (hb hby at_4) rfl ?_
              show Steps p.tables e below (s₁.setTop (mkF m 5 #[.val (.int p1), .val (.int p2), .val (.int (p1 &&& (3 : Int32))), .unset, .unset, .unset, .unset] [(.int p2)])) _
              refine XS.iconst X0.here hx rfl (hb hby at_5) ?_
              show Steps p.tables e below (s₁.setTop (mkF m 6 #[.val (.int p1), .val (.int p2), .val (.int (p1 &&& (3 : Int32))), .unset, .unset, .unset, .unset] [(.int (1 : Int32)), (.int p2)])) _
              refine XS.iand X0.here hx rfl (hb hby at_6) rfl ?_
              show Steps p.tables e below (s₁.setTop (mkF m 7 #[.val (.int p1), .val (.int p2), .val (.int (p1 &&& (3 : Int32))), .unset, .unset, .unset, .unset] [(.int (p2 &&& (1 : Int32)))])) _
              refine XS.ifNo X0.here hx rfl (hb hby at_7) rfl ((if0 _ _).trans (feq hc7_1).1) ?_
              show Steps p.tables e below (s₁.setTop (mkF m 10 #[.val (.int p1), .val (.int p2), .val (.int (p1 &&& (3 : Int32))), .unset, .unset, .unset, .unset] [])) _
              refine XS.iconst X0.here hx rfl (hb hby at_10) ?_
              show Steps p.tables e below (s₁.setTop (mkF m 11 #[.val (.int p1), .val (.int p2), .val (.int (p1 &&& (3 : Int32))), .unset, .unset, .unset, .unset] [(.int (1 : Int32))])) _
              refine XS.goto X0.here hx rfl (pc0 := 11) (pc' := 15) rfl (hb hby at_11) (by decide) (by decide) ?_
              show Steps p.tables e below (s₁.setTop (mkF m 15 #[.val (.int p1), .val (.int p2), .val (.int (p1 &&& (3 : Int32))), .unset, .unset, .unset, .unset] [(.int (1 : Int32))])) _
              refine XS.istoreN X0.here hx rfl (hb hby at_15) rfl (l' := #[.val (.int p1), .val (.int p2), .val (.int (p1 &&& (3 : Int32))), .val (.int (1 : Int32)), .unset, .unset, .unset]) rfl ?_
              show Steps p.tables e below (s₁.setTop (mkF m 16 #[.val (.int p1), .val (.int p2), .val (.int (p1 &&& (3 : Int32))), .val (.int (1 : Int32)), .unset, .unset, .unset] [])) _
              refine XS.iloadN X0.here hx rfl (hb hby at_16) rfl ?_
              show Steps p.tables e below (s₁.setTop (mkF m 17 #[.val (.int p1), .val (.int p2), .val (.int (p1 &&& (3 : Int32))), .val (.int (1 : Int32)), .unset, .unset, .unset] [(.int p2)])) _
              refine XS.iconst X0.here hx rfl (hb hby at_17) ?_
              show Steps p.tables e below (s₁.setTop (mkF m 18 #[.val (.int p1), .val (.int p2), .val (.int (p1 &&& (3 : Int32))), .val (.int (1 : Int32)), .unset, .unset, .unset] [(.int (2 : Int32)), (.int p2)])) _
              refine XS.iand X0.here hx rfl (hb hby at_18) rfl ?_
              show Steps p.tables e below (s₁.setTop (mkF m 19 #[.val (.int p1), .val (.int p2), .val (.int (p1 &&& (3 : Int32))), .val (.int (1 : Int32)), .unset, .unset, .unset] [(.int (p2 &&& (2 : Int32)))])) _
              refine XS.ifNo X0.here hx rfl (hb hby at_19) rfl ((if0 _ _).trans (feq hc19_33).1) ?_
              show Steps p.tables e below (s₁.setTop (mkF m 22 #[.val (.int p1), .val (.int p2), .val (.int (p1 &&& (3 : Int32))), .val (.int (1 : Int32)), .unset, .unset, .unset] [])) _
              refine XS.iconst X0.here hx rfl (hb hby at_22) ?_
              show Steps p.tables e below (s₁.setTop (mkF m 23 #[.val (.int p1), .val (.int p2), .val (.int (p1 &&& (3 : Int32))), .val (.int (1 : Int32)), .unset, .unset, .unset] [(.int (1 : Int32))])) _
              refine XS.goto X0.here hx rfl (pc0 := 23) (pc' := 27) rfl (hb hby at_23) (by decide) (by decide) ?_
              show Steps p.tables e below (s₁.setTop (mkF m 27 #[.val (.int p1), .val (.int p2), .val (.int (p1 &&& (3 : Int32))), .val (.int (1 : Int32)), .unset, .unset, .unset] [(.int (1 : Int32))])) _
              refine XS.istore X0.here hx rfl (hb hby at_27) rfl (l' := #[.val (.int p1), .val (.int p2), .val (.int (p1 &&& (3 : Int32))), .val (.int (1 : Int32)), .val (.int (1 : Int32)), .unset, .unset]) rfl ?_
              show Steps p.tables e below (s₁.setTop (mkF m 29 #[.val (.int p1), .val (.int p2), .val (.int (p1 &&& (3 : Int32))), .val (.int (1 : Int32)), .val (.int (1 : Int32)), .unset, .unset] [])) _
              refine XS.iloadN X0.here hx rfl (hb hby at_29) rfl ?_
              show Steps p.tables e below (s₁.setTop (mkF m 30 #[.val (.int p1), .val (.int p2), .val (.int (p1 &&& (3 : Int32))), .val (.int (1 : Int32)), .val (.int (1 : Int32)), .unset, .unset] [(.int (p1 &&& (3 : Int32)))])) _
              refine XS.ifYes X0.here hx rfl (pc0 := 30) (pc' := 57) rfl (hb hby at_30) rfl ((if0 _ _).trans (feq hc30_49).2) (by decide) (by decide) ?_
              show Steps p.tables e below (s₁.setTop (mkF m 57 #[.val (.int p1), .val (.int p2), .val (.int (p1 &&& (3 : Int32))), .val (.int (1 : Int32)), .val (.int (1 : Int32)), .unset, .unset] [])) _
              refine XS.iloadN X0.here hx rfl (hb hby at_57) rfl ?_
              show Steps p.tables e below (s₁.setTop (mkF m 58 #[.val (.int p1), .val (.int p2), .val (.int (p1 &&& (3 : Int32))), .val (.int (1 : Int32)), .val (.int (1 : Int32)), .unset, .unset] [(.int (p1 &&& (3 : Int32)))])) _
              refine XS.iconst X0.here hx rfl (hb hby at_58) ?_
              show Steps p.tables e below (s₁.setTop (mkF m 59 #[.val (.int p1), .val (.int p2), .val (.int (p1 &&& (3 : Int32))), .val (.int (1 : Int32)), .val (.int (1 : Int32)), .unset, .unset] [(.int (1 : Int32)), (.int (p1 &&& (3 : Int32)))])) _
              refine XS.icmpYes X0.here hx rfl (pc0 := 59) (pc' := 86) rfl (hb hby at_59) rfl (feq hc59_53).2 (by decide) (by decide) ?_
              show Steps p.tables e below (s₁.setTop (mkF m 86 #[.val (.int p1), .val (.int p2), .val (.int (p1 &&& (3 : Int32))), .val (.int (1 : Int32)), .val (.int (1 : Int32)), .unset, .unset] [])) _
              refine XS.iloadN X0.here hx rfl (hb hby at_86) rfl ?_
              show Steps p.tables e below (s₁.setTop (mkF m 87 #[.val (.int p1), .val (.int p2), .val (.int (p1 &&& (3 : Int32))), .val (.int (1 : Int32)), .val (.int (1 : Int32)), .unset, .unset] [(.int (p1 &&& (3 : Int32)))])) _
              refine XS.iconst X0.here hx rfl (hb hby at_87) ?_
              show Steps p.tables e below (s₁.setTop (mkF m 88 #[.val (.int p1), .val (.int p2), .val (.int (p1 &&& (3 : Int32))), .val (.int (1 : Int32)), .val (.int (1 : Int32)), .unset, .unset] [(.int (2 : Int32)), (.int (p1 &&& (3 : Int32)))])) _
              refine XS.icmpNo X0.here hx rfl (hb hby at_88) rfl (teq hc88_57).2 ?_
              show Steps p.tables e below (s₁.setTop (mkF m 91 #[.val (.int p1), .val (.int p2), .val (.int (p1 &&& (3 : Int32))), .val (.int (1 : Int32)), .val (.int (1 : Int32)), .unset, .unset] [])) _
              refine st58 _ ?_
              show Steps p.tables e below (T58.setTop (mkF m 94 #[.val (.int p1), .val (.int p2), .val (.int (p1 &&& (3 : Int32))), .val (.int (1 : Int32)), .val (.int (1 : Int32)), .unset, .unset] [(.ref r_XOR)])) _
              refine XS.astore X58.here hx rfl (hb hby at_94) rfl rfl (l' := #[.val (.int p1), .val (.int p2), .val (.int (p1 &&& (3 : Int32))), .val (.int (1 : Int32)), .val (.int (1 : Int32)), .val (.ref r_XOR), .unset]) rfl ?_
              show Steps p.tables e below (T58.setTop (mkF m 96 #[.val (.int p1), .val (.int p2), .val (.int (p1 &&& (3 : Int32))), .val (.int (1 : Int32)), .val (.int (1 : Int32)), .val (.ref r_XOR), .unset] [])) _
              refine XS.iloadN X58.here hx rfl (hb hby at_96) rfl ?_
              show Steps p.tables e below (T58.setTop (mkF m 97 #[.val (.int p1), .val (.int p2), .val (.int (p1 &&& (3 : Int32))), .val (.int (1 : Int32)), .val (.int (1 : Int32)), .val (.ref r_XOR), .unset] [(.int (1 : Int32))])) _
              refine XS.iload X58.here hx rfl (hb hby at_97) rfl ?_
              show Steps p.tables e below (T58.setTop (mkF m 99 #[.val (.int p1), .val (.int p2), .val (.int (p1 &&& (3 : Int32))), .val (.int (1 : Int32)), .val (.int (1 : Int32)), .val (.ref r_XOR), .unset] [(.int (1 : Int32)), (.int (1 : Int32))])) _
              refine XS.icmpYes X58.here hx rfl (pc0 := 99) (pc' := 106) rfl (hb hby at_99) rfl (teq (rfl : (1 : Int32) = (1 : Int32))).1 (by decide) (by decide) ?_
              show Steps p.tables e below (T58.setTop (mkF m 106 #[.val (.int p1), .val (.int p2), .val (.int (p1 &&& (3 : Int32))), .val (.int (1 : Int32)), .val (.int (1 : Int32)), .val (.ref r_XOR), .unset] [])) _
              refine XS.iconst X58.here hx rfl (hb hby at_106) ?_
              show Steps p.tables e below (T58.setTop (mkF m 107 #[.val (.int p1), .val (.int p2), .val (.int (p1 &&& (3 : Int32))), .val (.int (1 : Int32)), .val (.int (1 : Int32)), .val (.ref r_XOR), .unset] [(.int (0 : Int32))])) _
              refine XS.istore X58.here hx rfl (hb hby at_107) rfl (l' := #[.val (.int p1), .val (.int p2), .val (.int (p1 &&& (3 : Int32))), .val (.int (1 : Int32)), .val (.int (1 : Int32)), .val (.ref r_XOR), .val (.int (0 : Int32))]) rfl ?_
              show Steps p.tables e below (T58.setTop (mkF m 109 #[.val (.int p1), .val (.int p2), .val (.int (p1 &&& (3 : Int32))), .val (.int (1 : Int32)), .val (.int (1 : Int32)), .val (.ref r_XOR), .val (.int (0 : Int32))] [])) _
              refine XS.goto X58.here hx rfl (pc0 := 109) (pc' := 133) rfl (hb hby at_109) (by decide) (by decide) ?_
              show Steps p.tables e below (T58.setTop (mkF m 133 #[.val (.int p1), .val (.int p2), .val (.int (p1 &&& (3 : Int32))), .val (.int (1 : Int32)), .val (.int (1 : Int32)), .val (.ref r_XOR), .val (.int (0 : Int32))] [])) _
              refine XS.aload X58.here hx rfl (hb hby at_133) rfl rfl ?_
              show Steps p.tables e below (T58.setTop (mkF m 135 #[.val (.int p1), .val (.int p2), .val (.int (p1 &&& (3 : Int32))), .val (.int (1 : Int32)), .val (.int (1 : Int32)), .val (.ref r_XOR), .val (.int (0 : Int32))] [(.ref r_XOR)])) _
              refine XS.iloadN X58.here hx rfl (hb hby at_135) rfl ?_
              show Steps p.tables e below (T58.setTop (mkF m 136 #[.val (.int p1), .val (.int p2), .val (.int (p1 &&& (3 : Int32))), .val (.int (1 : Int32)), .val (.int (1 : Int32)), .val (.ref r_XOR), .val (.int (0 : Int32))] [(.int (1 : Int32)), (.ref r_XOR)])) _
              refine XS.iload X58.here hx rfl (hb hby at_136) rfl ?_
              show Steps p.tables e below (T58.setTop (mkF m 138 #[.val (.int p1), .val (.int p2), .val (.int (p1 &&& (3 : Int32))), .val (.int (1 : Int32)), .val (.int (1 : Int32)), .val (.ref r_XOR), .val (.int (0 : Int32))] [(.int (1 : Int32)), (.int (1 : Int32)), (.ref r_XOR)])) _
              refine st59.trans ?_
              show Steps p.tables e below (T59.setTop (mkF m 141 #[.val (.int p1), .val (.int p2), .val (.int (p1 &&& (3 : Int32))), .val (.int (1 : Int32)), .val (.int (1 : Int32)), .val (.ref r_XOR), .val (.int (0 : Int32))] [(.int (F1 (1 : Int32) (1 : Int32) (1 : Int32) (1 : Int32) (0 : Int32)))])) _
              refine XS.iload X59.here hx rfl (hb hby at_141) rfl ?_
              show Steps p.tables e below (T59.setTop (mkF m 143 #[.val (.int p1), .val (.int p2), .val (.int (p1 &&& (3 : Int32))), .val (.int (1 : Int32)), .val (.int (1 : Int32)), .val (.ref r_XOR), .val (.int (0 : Int32))] [(.int (0 : Int32)), (.int (F1 (1 : Int32) (1 : Int32) (1 : Int32) (1 : Int32) (0 : Int32)))])) _
              by_cases hc143_60 : (F1 (1 : Int32) (1 : Int32) (1 : Int32) (1 : Int32) (0 : Int32)) = (0 : Int32)
              · refine XS.icmpNo X59.here hx rfl (hb hby at_143) rfl (teq hc143_60).2 ?_
                show Steps p.tables e below (T59.setTop (mkF m 146 #[.val (.int p1), .val (.int p2), .val (.int (p1 &&& (3 : Int32))), .val (.int (1 : Int32)), .val (.int (1 : Int32)), .val (.ref r_XOR), .val (.int (0 : Int32))] [])) _
                refine XS.iconst X59.here hx rfl (hb hby at_146) ?_
                show Steps p.tables e below (T59.setTop (mkF m 147 #[.val (.int p1), .val (.int p2), .val (.int (p1 &&& (3 : Int32))), .val (.int (1 : Int32)), .val (.int (1 : Int32)), .val (.ref r_XOR), .val (.int (0 : Int32))] [(.int (1 : Int32))])) _
                refine XS.goto X59.here hx rfl (pc0 := 147) (pc' := 151) rfl (hb hby at_147) (by decide) (by decide) ?_
                show Steps p.tables e below (T59.setTop (mkF m 151 #[.val (.int p1), .val (.int p2), .val (.int (p1 &&& (3 : Int32))), .val (.int (1 : Int32)), .val (.int (1 : Int32)), .val (.ref r_XOR), .val (.int (0 : Int32))] [(.int (1 : Int32))])) _
                rw [if_pos hc143_60] at hr
                exact retN X59 hx (t := .boolean) Bd.returns (by simp) (hb hby at_151) hr
              · refine XS.icmpYes X59.here hx rfl (pc0 := 143) (pc' := 150) rfl (hb hby at_143) rfl (feq hc143_60).2 (by decide) (by decide) ?_
                show Steps p.tables e below (T59.setTop (mkF m 150 #[.val (.int p1), .val (.int p2), .val (.int (p1 &&& (3 : Int32))), .val (.int (1 : Int32)), .val (.int (1 : Int32)), .val (.ref r_XOR), .val (.int (0 : Int32))] [])) _
                refine XS.iconst X59.here hx rfl (hb hby at_150) ?_
                show Steps p.tables e below (T59.setTop (mkF m 151 #[.val (.int p1), .val (.int p2), .val (.int (p1 &&& (3 : Int32))), .val (.int (1 : Int32)), .val (.int (1 : Int32)), .val (.ref r_XOR), .val (.int (0 : Int32))] [(.int (0 : Int32))])) _
                rw [if_neg hc143_60] at hr
                exact retN X59 hx (t := .boolean) Bd.returns (by simp) (hb hby at_151) hr
            · show Q0 Z p1 p2 r_AND r_OR r_XOR r_AND_NOT h0 n0 _ T59.heap _
              rw [e59]
              exact ⟨congrArg (fun z => some (Value.int z)) ((show F0 p1 p2 = (if (F1 (1 : Int32) (1 : Int32) (1 : Int32) (1 : Int32) (0 : Int32)) = (0 : Int32) then (1 : Int32) else (0 : Int32)) by rw [F0, if_neg hc7_1, if_neg hc19_33, if_neg hc30_49, if_neg hc59_53, if_pos hc88_57]).symm.trans (own_law p1 p2)), N59⟩
          · obtain ⟨T61, X61, e61, st61⟩ := getS2 X0 hx hZ hown (host := "") (Or.inl (hw _ (List.mem_of_getElem? (i := 16) rfl))) Via.refl e0 S_AND_NOT (g := (mkF m 112 #[.val (.int p1), .val (.int p2), .val (.int (p1 &&& (3 : Int32))), .val (.int (1 : Int32)), .val (.int (1 : Int32)), .unset, .unset] [])) rfl (hb hby at_112)
            obtain ⟨cq62, kq62, q62a, q62b, q62c⟩ := isOf hZ e61 E_AND_NOT
            obtain ⟨_, _, ⟨T62, L62, k62, n62⟩, -, X62, ⟨Lc62, hQ62, l62, y62, z62⟩, st62⟩ := X61.virtualBack hx (y := (⟨"com/example/bitweave/bitweave/SetOperation", "keeps", "(ZZ)Z"⟩ : MethodName)) (z := (⟨"com/example/bitweave/bitweave/SetOperation", "keeps", "(ZZ)Z"⟩ : MethodName)) hown (mvT hZ (hw _ (List.mem_of_getElem? (i := 3) rfl))) (mvT hZ (hw _ (List.mem_of_getElem? (i := 4) rfl))) (notFace_of_selects (args := #[]) (mvT hZ (hw _ (List.mem_of_getElem? (i := 6) rfl)))) (mvT hZ (hw _ (List.mem_of_getElem? (i := 6) rfl))) (mvT hZ (hw _ (List.mem_of_getElem? (i := 5) rfl))) (by decide) (backOf (W := 0) (rm1 l Z a0 hw [] r_AND_NOT (1 : Int32) (1 : Int32) (1 : Int32) (0 : Int32) (0 : Int32) h0 n0 Z0 F_AND_NOT_0 F_AND_NOT_1 F_AND_NOT_2) hZ (hw _ (List.mem_of_getElem? (i := 7) rfl)) (hw _ (List.mem_of_getElem? (i := 1) rfl)) (by decide) (by decide)) q62a q62c (g := (mkF m 138 #[.val (.int p1), .val (.int p2), .val (.int (p1 &&& (3 : Int32))), .val (.int (1 : Int32)), .val (.int (1 : Int32)), .val (.ref r_AND_NOT), .val (.int (0 : Int32))] [(.int (1 : Int32)), (.int (1 : Int32)), (.ref r_AND_NOT)])) rfl (by rw [hml]; rfl) (Steps.refl _) (argsL := [(.int (1 : Int32)), (.int (1 : Int32))]) (rest := []) (lenOf pd_1 rfl) rfl (by show 2 * 0 + _ ≤ _; exact Nat.le_of_eq rfl) (hb hby at_138) (fun _ _ => ⟨rfl, e61, (by decide : 0 + 0 ≤ _), (by decide : 0 + 0 ≤ _)⟩)
            dsimp only [Pt.U, Pt.locs, Pt.cells, Pt.slots] at X62 l62 y62 z62 st62 hQ62
            subst l62 y62 z62
            obtain ⟨rfl, N62q, e62⟩ := hQ62
            have N62 := Fr.app N0 N62q
            obtain ⟨fs, hr, hrun, hended, hW, hsame⟩ := X62.leave (v := some (.int (if (F1 (1 : Int32) (1 : Int32) (1 : Int32) (0 : Int32) (0 : Int32)) = (0 : Int32) then (1 : Int32) else (0 : Int32)))) (fun h => by rw [Bd.returns] at h; cases h)
            refine ⟨_, _, pre0 _ ?_, hrun, hended, _, _, rfl, ?_, ⟨_, rfl⟩, hW, hsame.mono (by decide) (by decide)⟩
            · show Steps p.tables e below (s₁.setTop (mkF m 0 #[.val (.int p1), .val (.int p2), .unset, .unset, .unset, .unset, .unset] [])) _
              refine XS.iloadN X0.here hx rfl (hb hby at_0) rfl ?_
              show Steps p.tables e below (s₁.setTop (mkF m 1 #[.val (.int p1), .val (.int p2), .unset, .unset, .unset, .unset, .unset] [(.int p1)])) _
              refine XS.iconst X0.here hx rfl (hb hby at_1) ?_
              show Steps p.tables e below (s₁.setTop (mkF m 2 #[.val (.int p1), .val (.int p2), .unset, .unset, .unset, .unset, .unset] [(.int (3 : Int32)), (.int p1)])) _
              refine XS.iand X0.here hx rfl (hb hby at_2) rfl ?_
              show Steps p.tables e below (s₁.setTop (mkF m 3 #[.val (.int p1), .val (.int p2), .unset, .unset, .unset, .unset, .unset] [(.int (p1 &&& (3 : Int32)))])) _
              refine XS.istoreN X0.here hx rfl (hb hby at_3) rfl (l' := #[.val (.int p1), .val (.int p2), .val (.int (p1 &&& (3 : Int32))), .unset, .unset, .unset, .unset]) rfl ?_
              show Steps p.tables e below (s₁.setTop (mkF m 4 #[.val (.int p1), .val (.int p2), .val (.int (p1 &&& (3 : Int32))), .unset, .unset, .unset, .unset] [])) _
              refine XS.iloadN X0.here hx rfl (hb hby at_4) rfl ?_
              show Steps p.tables e below (s₁.setTop (mkF m 5 #[.val (.int p1), .val (.int p2), .val (.int (p1 &&& (3 : Int32))), .unset, .unset, .unset, .unset] [(.int p2)])) _
              refine XS.iconst X0.here hx rfl (hb hby at_5) ?_
              show Steps p.tables e below (s₁.setTop (mkF m 6 #[.val (.int p1), .val (.int p2), .val (.int (p1 &&& (3 : Int32))), .unset, .unset, .unset, .unset] [(.int (1 : Int32)), (.int p2)])) _
              refine XS.iand X0.here hx rfl (hb hby at_6) rfl ?_
              show Steps p.tables e below (s₁.setTop (mkF m 7 #[.val (.int p1), .val (.int p2), .val (.int (p1 &&& (3 : Int32))), .unset, .unset, .unset, .unset] [(.int (p2 &&& (1 : Int32)))])) _
              refine XS.ifNo X0.here hx rfl (hb hby at_7) rfl ((if0 _ _).trans (feq hc7_1).1) ?_
              show Steps p.tables e below (s₁.setTop (mkF m 10 #[.val (.int p1), .val (.int p2), .val (.int (p1 &&& (3 : Int32))), .unset, .unset, .unset, .unset] [])) _
              refine XS.iconst X0.here hx rfl (hb hby at_10) ?_
              show Steps p.tables e below (s₁.setTop (mkF m 11 #[.val (.int p1), .val (.int p2), .val (.int (p1 &&& (3 : Int32))), .unset, .unset, .unset, .unset] [(.int (1 : Int32))])) _
              refine XS.goto X0.here hx rfl (pc0 := 11) (pc' := 15) rfl (hb hby at_11) (by decide) (by decide) ?_
              show Steps p.tables e below (s₁.setTop (mkF m 15 #[.val (.int p1), .val (.int p2), .val (.int (p1 &&& (3 : Int32))), .unset, .unset, .unset, .unset] [(.int (1 : Int32))])) _
              refine XS.istoreN X0.here hx rfl (hb hby at_15) rfl (l' := #[.val (.int p1), .val (.int p2), .val (.int (p1 &&& (3 : Int32))), .val (.int (1 : Int32)), .unset, .unset, .unset]) rfl ?_
              show Steps p.tables e below (s₁.setTop (mkF m 16 #[.val (.int p1), .val (.int p2), .val (.int (p1 &&& (3 : Int32))), .val (.int (1 : Int32)), .unset, .unset, .unset] [])) _
              refine XS.iloadN X0.here hx rfl (hb hby at_16) rfl ?_
              show Steps p.tables e below (s₁.setTop (mkF m 17 #[.val (.int p1), .val (.int p2), .val (.int (p1 &&& (3 : Int32))), .val (.int (1 : Int32)), .unset, .unset, .unset] [(.int p2)])) _
              refine XS.iconst X0.here hx rfl (hb hby at_17) ?_
              show Steps p.tables e below (s₁.setTop (mkF m 18 #[.val (.int p1), .val (.int p2), .val (.int (p1 &&& (3 : Int32))), .val (.int (1 : Int32)), .unset, .unset, .unset] [(.int (2 : Int32)), (.int p2)])) _
              refine XS.iand X0.here hx rfl (hb hby at_18) rfl ?_
              show Steps p.tables e below (s₁.setTop (mkF m 19 #[.val (.int p1), .val (.int p2), .val (.int (p1 &&& (3 : Int32))), .val (.int (1 : Int32)), .unset, .unset, .unset] [(.int (p2 &&& (2 : Int32)))])) _
              refine XS.ifNo X0.here hx rfl (hb hby at_19) rfl ((if0 _ _).trans (feq hc19_33).1) ?_
              show Steps p.tables e below (s₁.setTop (mkF m 22 #[.val (.int p1), .val (.int p2), .val (.int (p1 &&& (3 : Int32))), .val (.int (1 : Int32)), .unset, .unset, .unset] [])) _
              refine XS.iconst X0.here hx rfl (hb hby at_22) ?_
              show Steps p.tables e below (s₁.setTop (mkF m 23 #[.val (.int p1), .val (.int p2), .val (.int (p1 &&& (3 : Int32))), .val (.int (1 : Int32)), .unset, .unset, .unset] [(.int (1 : Int32))])) _
              refine XS.goto X0.here hx rfl (pc0 := 23) (pc' := 27) rfl (hb hby at_23) (by decide) (by decide) ?_
              show Steps p.tables e below (s₁.setTop (mkF m 27 #[.val (.int p1), .val (.int p2), .val (.int (p1 &&& (3 : Int32))), .val (.int (1 : Int32)), .unset, .unset, .unset] [(.int (1 : Int32))])) _
              refine XS.istore X0.here hx rfl (hb hby at_27) rfl (l' := #[.val (.int p1), .val (.int p2), .val (.int (p1 &&& (3 : Int32))), .val (.int (1 : Int32)), .val (.int (1 : Int32)), .unset, .unset]) rfl ?_
              show Steps p.tables e below (s₁.setTop (mkF m 29 #[.val (.int p1), .val (.int p2), .val (.int (p1 &&& (3 : Int32))), .val (.int (1 : Int32)), .val (.int (1 : Int32)), .unset, .unset] [])) _
              refine XS.iloadN X0.here hx rfl (hb hby at_29) rfl ?_
              show Steps p.tables e below (s₁.setTop (mkF m 30 #[.val (.int p1), .val (.int p2), .val (.int (p1 &&& (3 : Int32))), .val (.int (1 : Int32)), .val (.int (1 : Int32)), .unset, .unset] [(.int (p1 &&& (3 : Int32)))])) _
              refine XS.ifYes X0.here hx rfl (pc0 := 30) (pc' := 57) rfl (hb hby at_30) rfl ((if0 _ _).trans (feq hc30_49).2) (by decide) (by decide) ?_
              show Steps p.tables e below (s₁.setTop (mkF m 57 #[.val (.int p1), .val (.int p2), .val (.int (p1 &&& (3 : Int32))), .val (.int (1 : Int32)), .val (.int (1 : Int32)), .unset, .unset] [])) _
              refine XS.iloadN X0.here hx rfl (hb hby at_57) rfl ?_
              show Steps p.tables e below (s₁.setTop (mkF m 58 #[.val (.int p1), .val (.int p2), .val (.int (p1 &&& (3 : Int32))), .val (.int (1 : Int32)), .val (.int (1 : Int32)), .unset, .unset] [(.int (p1 &&& (3 : Int32)))])) _
              refine XS.iconst X0.here hx rfl (hb hby at_58) ?_
              show Steps p.tables e below (s₁.setTop (mkF m 59 #[.val (.int p1), .val (.int p2), .val (.int (p1 &&& (3 : Int32))), .val (.int (1 : Int32)), .val (.int (1 : Int32)), .unset, .unset] [(.int (1 : Int32)), (.int (p1 &&& (3 : Int32)))])) _
              refine XS.icmpYes X0.here hx rfl (pc0 := 59) (pc' := 86) rfl (hb hby at_59) rfl (feq hc59_53).2 (by decide) (by decide) ?_
              show Steps p.tables e below (s₁.setTop (mkF m 86 #[.val (.int p1), .val (.int p2), .val (.int (p1 &&& (3 : Int32))), .val (.int (1 : Int32)), .val (.int (1 : Int32)), .unset, .unset] [])) _
              refine XS.iloadN X0.here hx rfl (hb hby at_86) rfl ?_
              show Steps p.tables e below (s₁.setTop (mkF m 87 #[.val (.int p1), .val (.int p2), .val (.int (p1 &&& (3 : Int32))), .val (.int (1 : Int32)), .val (.int (1 : Int32)), .unset, .unset] [(.int (p1 &&& (3 : Int32)))])) _
              refine XS.iconst X0.here hx rfl (hb hby at_87) ?_
              show Steps p.tables e below (s₁.setTop (mkF m 88 #[.val (.int p1), .val (.int p2), .val (.int (p1 &&& (3 : Int32))), .val (.int (1 : Int32)), .val (.int (1 : Int32)), .unset, .unset] [(.int (2 : Int32)), (.int (p1 &&& (3 : Int32)))])) _
              refine XS.icmpYes X0.here hx rfl (pc0 := 88) (pc' := 112) rfl (hb hby at_88) rfl (feq hc88_57).2 (by decide) (by decide) ?_
              show Steps p.tables e below (s₁.setTop (mkF m 112 #[.val (.int p1), .val (.int p2), .val (.int (p1 &&& (3 : Int32))), .val (.int (1 : Int32)), .val (.int (1 : Int32)), .unset, .unset] [])) _
              refine st61 _ ?_
              show Steps p.tables e below (T61.setTop (mkF m 115 #[.val (.int p1), .val (.int p2), .val (.int (p1 &&& (3 : Int32))), .val (.int (1 : Int32)), .val (.int (1 : Int32)), .unset, .unset] [(.ref r_AND_NOT)])) _
              refine XS.astore X61.here hx rfl (hb hby at_115) rfl rfl (l' := #[.val (.int p1), .val (.int p2), .val (.int (p1 &&& (3 : Int32))), .val (.int (1 : Int32)), .val (.int (1 : Int32)), .val (.ref r_AND_NOT), .unset]) rfl ?_
              show Steps p.tables e below (T61.setTop (mkF m 117 #[.val (.int p1), .val (.int p2), .val (.int (p1 &&& (3 : Int32))), .val (.int (1 : Int32)), .val (.int (1 : Int32)), .val (.ref r_AND_NOT), .unset] [])) _
              refine XS.iloadN X61.here hx rfl (hb hby at_117) rfl ?_
              show Steps p.tables e below (T61.setTop (mkF m 118 #[.val (.int p1), .val (.int p2), .val (.int (p1 &&& (3 : Int32))), .val (.int (1 : Int32)), .val (.int (1 : Int32)), .val (.ref r_AND_NOT), .unset] [(.int (1 : Int32))])) _
              refine XS.ifNo X61.here hx rfl (hb hby at_118) rfl ((if0 _ _).trans (feq (by decide : ¬ ((1 : Int32) = (0 : Int32)))).1) ?_
              show Steps p.tables e below (T61.setTop (mkF m 121 #[.val (.int p1), .val (.int p2), .val (.int (p1 &&& (3 : Int32))), .val (.int (1 : Int32)), .val (.int (1 : Int32)), .val (.ref r_AND_NOT), .unset] [])) _
              refine XS.iload X61.here hx rfl (hb hby at_121) rfl ?_
              show Steps p.tables e below (T61.setTop (mkF m 123 #[.val (.int p1), .val (.int p2), .val (.int (p1 &&& (3 : Int32))), .val (.int (1 : Int32)), .val (.int (1 : Int32)), .val (.ref r_AND_NOT), .unset] [(.int (1 : Int32))])) _
              refine XS.ifYes X61.here hx rfl (pc0 := 123) (pc' := 130) rfl (hb hby at_123) rfl ((if0 _ _).trans (feq (by decide : ¬ ((1 : Int32) = (0 : Int32)))).2) (by decide) (by decide) ?_
              show Steps p.tables e below (T61.setTop (mkF m 130 #[.val (.int p1), .val (.int p2), .val (.int (p1 &&& (3 : Int32))), .val (.int (1 : Int32)), .val (.int (1 : Int32)), .val (.ref r_AND_NOT), .unset] [])) _
              refine XS.iconst X61.here hx rfl (hb hby at_130) ?_
              show Steps p.tables e below (T61.setTop (mkF m 131 #[.val (.int p1), .val (.int p2), .val (.int (p1 &&& (3 : Int32))), .val (.int (1 : Int32)), .val (.int (1 : Int32)), .val (.ref r_AND_NOT), .unset] [(.int (0 : Int32))])) _
              refine XS.istore X61.here hx rfl (hb hby at_131) rfl (l' := #[.val (.int p1), .val (.int p2), .val (.int (p1 &&& (3 : Int32))), .val (.int (1 : Int32)), .val (.int (1 : Int32)), .val (.ref r_AND_NOT), .val (.int (0 : Int32))]) rfl ?_
              show Steps p.tables e below (T61.setTop (mkF m 133 #[.val (.int p1), .val (.int p2), .val (.int (p1 &&& (3 : Int32))), .val (.int (1 : Int32)), .val (.int (1 : Int32)), .val (.ref r_AND_NOT), .val (.int (0 : Int32))] [])) _
              refine XS.aload X61.here hx rfl (hb hby at_133) rfl rfl ?_
              show Steps p.tables e below (T61.setTop (mkF m 135 #[.val (.int p1), .val (.int p2), .val (.int (p1 &&& (3 : Int32))), .val (.int (1 : Int32)), .val (.int (1 : Int32)), .val (.ref r_AND_NOT), .val (.int (0 : Int32))] [(.ref r_AND_NOT)])) _
              refine XS.iloadN X61.here hx rfl (hb hby at_135) rfl ?_
              show Steps p.tables e below (T61.setTop (mkF m 136 #[.val (.int p1), .val (.int p2), .val (.int (p1 &&& (3 : Int32))), .val (.int (1 : Int32)), .val (.int (1 : Int32)), .val (.ref r_AND_NOT), .val (.int (0 : Int32))] [(.int (1 : Int32)), (.ref r_AND_NOT)])) _
              refine XS.iload X61.here hx rfl (hb hby at_136) rfl ?_
              show Steps p.tables e below (T61.setTop (mkF m 138 #[.val (.int p1), .val (.int p2), .val (.int (p1 &&& (3 : Int32))), .val (.int (1 : Int32)), .val (.int (1 : Int32)), .val (.ref r_AND_NOT), .val (.int (0 : Int32))] [(.int (1 : Int32)), (.int (1 : Int32)), (.ref r_AND_NOT)])) _
              refine st62.trans ?_
              show Steps p.tables e below (T62.setTop (mkF m 141 #[.val (.int p1), .val (.int p2), .val (.int (p1 &&& (3 : Int32))), .val (.int (1 : Int32)), .val (.int (1 : Int32)), .val (.ref r_AND_NOT), .val (.int (0 : Int32))] [(.int (F1 (1 : Int32) (1 : Int32) (1 : Int32) (0 : Int32) (0 : Int32)))])) _
              refine XS.iload X62.here hx rfl (hb hby at_141) rfl ?_
              show Steps p.tables e below (T62.setTop (mkF m 143 #[.val (.int p1), .val (.int p2), .val (.int (p1 &&& (3 : Int32))), .val (.int (1 : Int32)), .val (.int (1 : Int32)), .val (.ref r_AND_NOT), .val (.int (0 : Int32))] [(.int (0 : Int32)), (.int (F1 (1 : Int32) (1 : Int32) (1 : Int32) (0 : Int32) (0 : Int32)))])) _
              by_cases hc143_63 : (F1 (1 : Int32) (1 : Int32) (1 : Int32) (0 : Int32) (0 : Int32)) = (0 : Int32)
              · refine XS.icmpNo X62.here hx rfl (hb hby at_143) rfl (teq hc143_63).2 ?_
                show Steps p.tables e below (T62.setTop (mkF m 146 #[.val (.int p1), .val (.int p2), .val (.int (p1 &&& (3 : Int32))), .val (.int (1 : Int32)), .val (.int (1 : Int32)), .val (.ref r_AND_NOT), .val (.int (0 : Int32))] [])) _
                refine XS.iconst X62.here hx rfl (hb hby at_146) ?_
                show Steps p.tables e below (T62.setTop (mkF m 147 #[.val (.int p1), .val (.int p2), .val (.int (p1 &&& (3 : Int32))), .val (.int (1 : Int32)), .val (.int (1 : Int32)), .val (.ref r_AND_NOT), .val (.int (0 : Int32))] [(.int (1 : Int32))])) _
                refine XS.goto X62.here hx rfl (pc0 := 147) (pc' := 151) rfl (hb hby at_147) (by decide) (by decide) ?_
                show Steps p.tables e below (T62.setTop (mkF m 151 #[.val (.int p1), .val (.int p2), .val (.int (p1 &&& (3 : Int32))), .val (.int (1 : Int32)), .val (.int (1 : Int32)), .val (.ref r_AND_NOT), .val (.int (0 : Int32))] [(.int (1 : Int32))])) _
                rw [if_pos hc143_63] at hr
                exact retN X62 hx (t := .boolean) Bd.returns (by simp) (hb hby at_151) hr
              · refine XS.icmpYes X62.here hx rfl (pc0 := 143) (pc' := 150) rfl (hb hby at_143) rfl (feq hc143_63).2 (by decide) (by decide) ?_
                show Steps p.tables e below (T62.setTop (mkF m 150 #[.val (.int p1), .val (.int p2), .val (.int (p1 &&& (3 : Int32))), .val (.int (1 : Int32)), .val (.int (1 : Int32)), .val (.ref r_AND_NOT), .val (.int (0 : Int32))] [])) _
                refine XS.iconst X62.here hx rfl (hb hby at_150) ?_
                show Steps p.tables e below (T62.setTop (mkF m 151 #[.val (.int p1), .val (.int p2), .val (.int (p1 &&& (3 : Int32))), .val (.int (1 : Int32)), .val (.int (1 : Int32)), .val (.ref r_AND_NOT), .val (.int (0 : Int32))] [(.int (0 : Int32))])) _
                rw [if_neg hc143_63] at hr
                exact retN X62 hx (t := .boolean) Bd.returns (by simp) (hb hby at_151) hr
            · show Q0 Z p1 p2 r_AND r_OR r_XOR r_AND_NOT h0 n0 _ T62.heap _
              rw [e62]
              exact ⟨congrArg (fun z => some (Value.int z)) ((show F0 p1 p2 = (if (F1 (1 : Int32) (1 : Int32) (1 : Int32) (0 : Int32) (0 : Int32)) = (0 : Int32) then (1 : Int32) else (0 : Int32)) by rw [F0, if_neg hc7_1, if_neg hc19_33, if_neg hc30_49, if_neg hc59_53, if_neg hc88_57]).symm.trans (own_law p1 p2)), N62⟩
theorem own_eqi {t : Term} {n : Int32} {args : Array Value} {first s : State} {o : Option Outcome} {idx : List Nat} (h : (Jvm.Cond.eq t (Term.int n)).value args first o s idx = some true) : t.eval args first o idx s = some (.int n) := by
  obtain ⟨x, y, h1, h2, -, h4⟩ := cmp_v (Or.inl h)
  have e2 : (Term.int n).eval args first o idx s = some (.int n) := Term.int_eval n
  cases h2.symm.trans e2
  obtain ⟨z, rfl⟩ := h4
  simp [Cond.value, h1, e2] at h
  rw [h1, h]
set_option maxRecDepth 65536 in
set_option maxHeartbeats 40000000 in
theorem comes_1 {Post : Tables → Env → Array Value → State → Outcome → State → Prop} (hpost : ∀ tb e args s v u, (limb_1_1.after args s (.returned v) u = true ∧ limb_1_2.after args s (.returned v) u = true ∧ True) → FrameEnd s (.returned v) u (Jvm.fieldLocs frame_1_writes args s ++ Jvm.arrayLocs frame_1_arrays args s ++ Jvm.staticLocs frame_1_statics s) 0 0 → Post tb e args s (.returned v) u) :
    ArmFor flags0 classFile x code maxLocals ret World_1 tables_1 room_1 Calls_1 rest_1 Pre_1 Post := by
  intro l hfl _ _ p e ha hc hk s m args below hf hA hF happ hP
  obtain ⟨hcalls, hrest, hpre⟩ := hP
  obtain ⟨-, -, -, hnamed, -, -, -, hat⟩ := (Spec.applies_iff hf).mp happ
  obtain ⟨hg, hn⟩ := and_e (Cond.before_iff.mp (show (Jvm.Cond.and given_1 narrow_1).before args s = true from hpre))
  obtain ⟨hcnt, hg0⟩ := and_e hg
  obtain ⟨hi0, hg1⟩ := and_e hg0
  have hi1 := hg1
  obtain ⟨w0, w1, rfl⟩ : ∃ w0 w1 : Value, args = #[w0, w1] := by
    have hs : args.size = 2 := by simpa [Cond.value, given_1] using hcnt
    obtain ⟨L⟩ := args
    match L, hs with
    | [w0, w1], _ => exact ⟨w0, w1, rfl⟩
  have hw := fun d (hd : d ∈ tables_1) => atoms_spec (ws := Jvm.Cond.code x code maxLocals ret :: tables_1) hat d (List.mem_cons_of_mem _ hd)
  obtain ⟨i0, ei0⟩ := is_v hi0
  obtain rfl : w0 = (.int i0) := Option.some.inj ei0
  obtain ⟨i1, ei1⟩ := is_v hi1
  obtain rfl : w1 = (.int i1) := Option.some.inj ei1
  obtain ⟨c0, hn0⟩ := and_e hn
  obtain ⟨c1, hn1⟩ := and_e hn0
  obtain ⟨c2, hn2⟩ := and_e hn1
  obtain ⟨c3, hn3⟩ := and_e hn2
  obtain ⟨c4, hn4⟩ := and_e hn3
  obtain ⟨c5, hn5⟩ := and_e hn4
  obtain ⟨c6, hn6⟩ := and_e hn5
  obtain ⟨c7, hn7⟩ := and_e hn6
  obtain ⟨c8, hn8⟩ := and_e hn7
  obtain ⟨c9, hn9⟩ := and_e hn8
  obtain ⟨c10, hn10⟩ := and_e hn9
  obtain ⟨c11, hn11⟩ := and_e hn10
  obtain ⟨c12, hn12⟩ := and_e hn11
  obtain ⟨c13, hn13⟩ := and_e hn12
  obtain ⟨c14, hn14⟩ := and_e hn13
  have c15 := hn14
  obtain ⟨r_AND, v_AND⟩ := exa_v c0
  have E_AND := Exa.start v_AND c0
  have S_AND := Sta.start v_AND (Or.inr ⟨(hw _ (List.mem_of_getElem? (i := 1) rfl)), (hw _ (List.mem_of_getElem? (i := 2) rfl))⟩)
  obtain ⟨r_XOR, v_XOR⟩ := exa_v c2
  have E_XOR := Exa.start v_XOR c2
  have S_XOR := Sta.start v_XOR (Or.inr ⟨(hw _ (List.mem_of_getElem? (i := 1) rfl)), (hw _ (List.mem_of_getElem? (i := 11) rfl))⟩)
  obtain ⟨r_OR, v_OR⟩ := exa_v c4
  have E_OR := Exa.start v_OR c4
  have S_OR := Sta.start v_OR (Or.inr ⟨(hw _ (List.mem_of_getElem? (i := 1) rfl)), (hw _ (List.mem_of_getElem? (i := 15) rfl))⟩)
  obtain ⟨r_AND_NOT, v_AND_NOT⟩ := exa_v c7
  have E_AND_NOT := Exa.start v_AND_NOT c7
  have S_AND_NOT := Sta.start v_AND_NOT (Or.inr ⟨(hw _ (List.mem_of_getElem? (i := 1) rfl)), (hw _ (List.mem_of_getElem? (i := 17) rfl))⟩)
  have F_AND_2 := Fld.start ((fld_at v_AND).symm.trans (own_eqi c1))
  have F_XOR_0 := Fld.start ((fld_at v_XOR).symm.trans (own_eqi c3))
  have F_OR_0 := Fld.start ((fld_at v_OR).symm.trans (own_eqi c5))
  have F_AND_0 := Fld.start ((fld_at v_AND).symm.trans (own_eqi c6))
  have F_AND_NOT_1 := Fld.start ((fld_at v_AND_NOT).symm.trans (own_eqi c8))
  have F_AND_NOT_0 := Fld.start ((fld_at v_AND_NOT).symm.trans (own_eqi c9))
  have F_AND_NOT_2 := Fld.start ((fld_at v_AND_NOT).symm.trans (own_eqi c10))
  have F_OR_2 := Fld.start ((fld_at v_OR).symm.trans (own_eqi c11))
  have F_OR_1 := Fld.start ((fld_at v_OR).symm.trans (own_eqi c12))
  have F_XOR_2 := Fld.start ((fld_at v_XOR).symm.trans (own_eqi c13))
  have F_XOR_1 := Fld.start ((fld_at v_XOR).symm.trans (own_eqi c14))
  have F_AND_1 := Fld.start ((fld_at v_AND).symm.trans (own_eqi c15))
  obtain ⟨n, o, h1, h2, h3, _, L, rfl, ⟨rfl, N⟩, hq⟩ := rm0 l s _ hw tables_1 i0 i1 r_AND r_OR r_XOR r_AND_NOT s.heap s.heap.size (Nat.le_refl _) S_AND E_AND F_AND_0 F_AND_1 F_AND_2 S_OR E_OR F_OR_0 F_OR_1 F_OR_2 S_XOR E_XOR F_XOR_0 F_XOR_1 F_XOR_2 S_AND_NOT E_AND_NOT F_AND_NOT_0 F_AND_NOT_1 F_AND_NOT_2 p e ha hc hk s m _ below hf ((Spec.applies_iff_loose hf).mp happ).1 ⟨rfl, State.Warmed39.refl s, rfl⟩ trivial
  refine ⟨n, _, h1, h2, h3, hpost _ _ _ _ _ _ ⟨Cond.after_iff.mpr rfl, Cond.after_iff.mpr (eq_i res_at (Term.int_eval (1)) rfl), trivial⟩ ⟨hq.1, hq.2.1, (hq.2.2.sift fun y hy => Or.inr (N y hy)).mono (by decide) (by decide)⟩⟩
theorem main_1_1 : Claimed_1_1 := comes_1 fun _ _ _ _ _ _ h hF => ⟨h.1, hF⟩
theorem main_1_2 : Claimed_1_2 := comes_1 fun _ _ _ _ _ _ h hF => ⟨h.2.1, hF⟩
end Jvm.Pilot.@@N@@
namespace Jvm.Pilot.@@N@@
open Jvm Jvm.ClassFile Sem Op Lib Jvm.Free Jvm.Stand Jvm.Pilot.@@N@@.Jvm.D
/-! MADE BY PROGRAM (witnessworld.py) out of the Statement's table words and the real class files: 12 classes; the members and pool entries that the words name. The judged class is class 1, her method 1. -/
namespace start1
open Jvm.ClassFile
def u (s : String) : CpInfo := .utf8 (stringToUtf16 s)
/-- a pool by its gaps: so many unusable entries, then the entry; so many at the end -/
def gap : Nat → List CpInfo → List CpInfo
  | 0, r => r
  | n + 1, r => .unusable :: gap n r
def poolList (es : List (Nat × CpInfo)) (last : Nat) : List CpInfo := es.foldr (fun e r => gap e.1 (e.2 :: r)) (gap last [])
def pool (es : List (Nat × CpInfo)) (last : Nat) : Array CpInfo := ⟨poolList es last⟩
def fileOf (pool : Array CpInfo) (this : Nat) (attrs : Array Attribute := #[]) (ms : Array MethodInfo := #[]) (fl : Nat := 33) (sup : Nat := 0) (ifs : Array Nat := #[]) (fds : Array FieldInfo := #[]) : ClassFile where
  minorVersion := 0
  majorVersion := 65
  constantPool := pool
  accessFlags := fl
  thisClass := this
  superClass := sup
  interfaces := ifs
  fields := fds
  methods := ms
  attributes := attrs
def plain (name : String) (sup : Option ClassId) : Class where
  name := name
  kind := .ordinary
  loader := none
  accessFlags := 33
  super := sup
  interfaces := #[]
  cf := none
  fields := #[]
  methods := #[]
  instanceTypes := #[]
  staticTypes := #[]
  resolved := #[]
  callSites := []
  init := .initialized
  statics := none
  mirror := none

def pool0 : Array CpInfo := pool [(5, u "<init>"), (0, u "()V"), (1, .class_ 10), (1, u "java/lang/Object")] 113

def k0m0 : Method := { name := "<init>", desc := "()V", sig := { parameters := [], returnType := none }, accessFlags := 1, code := none }
/-- java/lang/Object -/
def k0 : Class := { plain "java/lang/Object" none with
  accessFlags := 33
  interfaces := #[]
  cf := some (fileOf pool0 8 #[] #[{ accessFlags := 1, nameIndex := 5, descriptorIndex := 6, attributes := #[] }] 33 0 #[] #[])
  fields := #[]
  methods := #[k0m0]
  instanceTypes := #[]
  staticTypes := #[]
  resolved := Array.replicate 124 none
  statics := none }

def pool1 : Array CpInfo := pool [(2, .class_ 4), (1, u "java/lang/Object"), (0, u "<init>"), (0, u "()V"), (0, .fieldref 8 9), (0, .class_ 10), (0, .nameAndType 11 12), (0, u "com/example/bitweave/bitweave/SetOperation"), (0, u "AND"), (0, u "Lcom/example/bitweave/bitweave/SetOperation;"), (0, .fieldref 8 14), (0, .nameAndType 15 12), (0, u "OR"), (0, .fieldref 8 17), (0, .nameAndType 18 12), (0, u "XOR"), (0, .fieldref 8 20), (0, .nameAndType 21 12), (0, u "AND_NOT"), (0, .methodref 8 23), (0, .nameAndType 24 25), (0, u "keeps"), (0, u "(ZZ)Z"), (0, .class_ 27), (0, u "com/example/bitweave/bitweave/SetOperationKeepsPinLaw"), (2, u "law"), (0, u "(II)Z")] 3

def k1m0 : Method := { name := "<init>", desc := "()V", sig := { parameters := [], returnType := none }, accessFlags := 1, code := none }
def k1c1 : Code := { maxStack := 3, maxLocals := 7, code := code, exceptionTable := #[], attributes := #[] }
def k1m1 : Method := { name := "law", desc := "(II)Z", sig := { parameters := [.int, .int], returnType := some .boolean }, accessFlags := 9, code := some k1c1 }
/-- com/example/bitweave/bitweave/SetOperationKeepsPinLaw -/
def k1 : Class := { plain "com/example/bitweave/bitweave/SetOperationKeepsPinLaw" (some 0) with
  accessFlags := 49
  interfaces := #[]
  cf := some (fileOf pool1 26 #[] #[{ accessFlags := 1, nameIndex := 5, descriptorIndex := 6, attributes := #[] }, { accessFlags := 9, nameIndex := 30, descriptorIndex := 31, attributes := #[] }] 49 2 #[] #[])
  fields := #[]
  methods := #[k1m0, k1m1]
  instanceTypes := #[]
  staticTypes := #[]
  resolved := Array.replicate 35 none
  statics := none }

def pool2 : Array CpInfo := pool [(1, .class_ 2), (0, u "java/lang/constant/Constable"), (0, .class_ 4), (0, u "java/lang/Object")] 6

/-- java/lang/constant/Constable -/
def k2 : Class := { plain "java/lang/constant/Constable" (some 0) with
  accessFlags := 1537
  interfaces := #[]
  cf := some (fileOf pool2 1 #[] #[] 1537 3 #[] #[])
  fields := #[]
  methods := #[]
  instanceTypes := #[]
  staticTypes := #[]
  resolved := Array.replicate 11 none
  statics := none }

def pool3 : Array CpInfo := pool [(1, .class_ 2), (0, u "java/lang/Comparable"), (0, .class_ 4), (0, u "java/lang/Object")] 7

/-- java/lang/Comparable -/
def k3 : Class := { plain "java/lang/Comparable" (some 0) with
  accessFlags := 1537
  interfaces := #[]
  cf := some (fileOf pool3 1 #[] #[] 1537 3 #[] #[])
  fields := #[]
  methods := #[]
  instanceTypes := #[]
  staticTypes := #[]
  resolved := Array.replicate 12 none
  statics := none }

def pool4 : Array CpInfo := pool [(1, .class_ 2), (0, u "java/io/Serializable"), (0, .class_ 4), (0, u "java/lang/Object")] 2

/-- java/io/Serializable -/
def k4 : Class := { plain "java/io/Serializable" (some 0) with
  accessFlags := 1537
  interfaces := #[]
  cf := some (fileOf pool4 1 #[] #[] 1537 3 #[] #[])
  fields := #[]
  methods := #[]
  instanceTypes := #[]
  staticTypes := #[]
  resolved := Array.replicate 7 none
  statics := none }

def pool5 : Array CpInfo := pool [(2, .class_ 4), (1, u "java/lang/Enum"), (0, u "name"), (0, u "Ljava/lang/String;"), (2, u "ordinal"), (0, u "I"), (1, .class_ 14), (1, u "java/lang/Object"), (4, u "hash"), (86, .class_ 108), (1, u "java/lang/Enum$EnumDesc"), (2, .class_ 112), (0, u "java/lang/constant/Constable"), (0, .class_ 114), (0, u "java/lang/Comparable"), (0, .class_ 116), (0, u "java/io/Serializable")] 87

/-- java/lang/Enum -/
def k5 : Class := { plain "java/lang/Enum" (some 0) with
  accessFlags := 1057
  interfaces := #[2, 3, 4]
  cf := some (fileOf pool5 2 #[.nestMembers #[106]] #[] 1057 12 #[111, 113, 115] #[{ accessFlags := 18, nameIndex := 5, descriptorIndex := 6, attributes := #[] }, { accessFlags := 18, nameIndex := 9, descriptorIndex := 10, attributes := #[] }, { accessFlags := 2, nameIndex := 19, descriptorIndex := 10, attributes := #[] }])
  fields := #[{ name := "name", type := (.object "java/lang/String"), accessFlags := 18, slot := 0, constantValue := 0 }, { name := "ordinal", type := .int, accessFlags := 18, slot := 1, constantValue := 0 }, { name := "hash", type := .int, accessFlags := 2, slot := 2, constantValue := 0 }]
  methods := #[]
  instanceTypes := #[(.object "java/lang/String"), .int, .int]
  staticTypes := #[]
  resolved := Array.replicate 204 none
  statics := none }

def pool6 : Array CpInfo := pool [(1, .class_ 2), (0, u "com/example/bitweave/bitweave/SetOperation"), (2, u "AND"), (0, u "Lcom/example/bitweave/bitweave/SetOperation;"), (2, u "OR"), (2, u "XOR"), (2, u "AND_NOT"), (2, u "$VALUES"), (0, u "[Lcom/example/bitweave/bitweave/SetOperation;"), (6, .class_ 28), (1, u "java/lang/Enum"), (6, .fieldref 1 36), (0, .nameAndType 37 38), (0, u "keepsFirstOnly"), (0, u "Z"), (0, .fieldref 1 40), (0, .nameAndType 41 38), (0, u "keepsSecondOnly"), (0, .fieldref 1 43), (0, .nameAndType 44 38), (0, u "keepsBoth"), (25, u "keeps"), (0, u "(ZZ)Z")] 8

def k6c0 : Code := { maxStack := 1, maxLocals := 3, code := prog_33_method_7_code, exceptionTable := #[], attributes := #[] }
def k6m0 : Method := { name := "keeps", desc := "(ZZ)Z", sig := { parameters := [.boolean, .boolean], returnType := some .boolean }, accessFlags := 0, code := some k6c0 }
/-- com/example/bitweave/bitweave/SetOperation -/
def k6 : Class := { plain "com/example/bitweave/bitweave/SetOperation" (some 5) with
  accessFlags := 16432
  interfaces := #[]
  cf := some (fileOf pool6 1 #[] #[{ accessFlags := 0, nameIndex := 70, descriptorIndex := 71, attributes := #[] }] 16432 26 #[] #[{ accessFlags := 16409, nameIndex := 5, descriptorIndex := 6, attributes := #[] }, { accessFlags := 16409, nameIndex := 9, descriptorIndex := 6, attributes := #[] }, { accessFlags := 16409, nameIndex := 12, descriptorIndex := 6, attributes := #[] }, { accessFlags := 16409, nameIndex := 15, descriptorIndex := 6, attributes := #[] }, { accessFlags := 18, nameIndex := 37, descriptorIndex := 38, attributes := #[] }, { accessFlags := 18, nameIndex := 41, descriptorIndex := 38, attributes := #[] }, { accessFlags := 18, nameIndex := 44, descriptorIndex := 38, attributes := #[] }, { accessFlags := 4122, nameIndex := 18, descriptorIndex := 19, attributes := #[] }])
  fields := #[{ name := "AND", type := (.object "com/example/bitweave/bitweave/SetOperation"), accessFlags := 16409, slot := 0, constantValue := 0 }, { name := "OR", type := (.object "com/example/bitweave/bitweave/SetOperation"), accessFlags := 16409, slot := 1, constantValue := 0 }, { name := "XOR", type := (.object "com/example/bitweave/bitweave/SetOperation"), accessFlags := 16409, slot := 2, constantValue := 0 }, { name := "AND_NOT", type := (.object "com/example/bitweave/bitweave/SetOperation"), accessFlags := 16409, slot := 3, constantValue := 0 }, { name := "keepsFirstOnly", type := .boolean, accessFlags := 18, slot := 3, constantValue := 0 }, { name := "keepsSecondOnly", type := .boolean, accessFlags := 18, slot := 4, constantValue := 0 }, { name := "keepsBoth", type := .boolean, accessFlags := 18, slot := 5, constantValue := 0 }, { name := "$VALUES", type := (.array (.object "com/example/bitweave/bitweave/SetOperation")), accessFlags := 4122, slot := 4, constantValue := 0 }]
  methods := #[k6m0]
  instanceTypes := #[(.object "java/lang/String"), .int, .int, .boolean, .boolean, .boolean]
  staticTypes := #[(.object "com/example/bitweave/bitweave/SetOperation"), (.object "com/example/bitweave/bitweave/SetOperation"), (.object "com/example/bitweave/bitweave/SetOperation"), (.object "com/example/bitweave/bitweave/SetOperation"), (.array (.object "com/example/bitweave/bitweave/SetOperation"))]
  resolved := Array.replicate 80 none
  statics := some 0 }

def pool7 : Array CpInfo := pool [(1, u "java/lang/Cloneable"), (0, .class_ 1), (0, u "java/lang/Object"), (0, .class_ 3)] 3

/-- java/lang/Cloneable -/
def k7 : Class := { plain "java/lang/Cloneable" (some 0) with
  accessFlags := 1537
  interfaces := #[]
  cf := some (fileOf pool7 2 #[] #[] 1537 4 #[] #[])
  fields := #[]
  methods := #[]
  instanceTypes := #[]
  staticTypes := #[]
  resolved := Array.replicate 8 none
  statics := none }

/-- the primitive byte -/
def k8 : Class := { plain "byte" none with kind := .primitive 'B', accessFlags := 0x411 }
/-- [B -/
def k9 : Class := { plain "[B" (some 0) with kind := .array 8 .byte, interfaces := #[7, 4], accessFlags := 1041 }

/-- the primitive int -/
def k10 : Class := { plain "int" none with kind := .primitive 'I', accessFlags := 0x411 }
/-- [I -/
def k11 : Class := { plain "[I" (some 0) with kind := .array 10 .int, interfaces := #[7, 4], accessFlags := 1041 }

def heap : Heap := #[{ cls := 6, slots := #[.ref 1, .ref 2, .ref 3, .ref 4, .null], vm := .statics 6 },
  { cls := 6, slots := #[.null, .int 0, .int 0, .int 0, .int 0, .int 1], vm := .none },
  { cls := 6, slots := #[.null, .int 1, .int 0, .int 1, .int 1, .int 1], vm := .none },
  { cls := 6, slots := #[.null, .int 2, .int 0, .int 1, .int 1, .int 0], vm := .none },
  { cls := 6, slots := #[.null, .int 3, .int 0, .int 1, .int 0, .int 0], vm := .none }]
def classes : Array Class := #[k0, k1, k2, k3, k4, k5, k6, k7, k8, k9, k10, k11]
def interned : List (Array UInt16 × Addr) := []
def slotsUsed : Nat := 29
def theMethod : MethodId := ⟨1, 1⟩
def args0 : Array Value := #[.int 5, .int 1]
def aboutOver (below : List Frame) : State where
  vm := { classes := classes, interned := interned.toArray }
  heap := heap
  slotsUsed := slotsUsed
  threads := #[{ frames := .invoking theMethod args0 :: below }]
def below0 : List Frame := [.native { method := ⟨0, 0⟩, args := #[] }]
def about1 : State := aboutOver below0
def p0 : Program := .bare "" "" ""
def e0 : Env := launch0.env 0 0 0
theorem w_frames : about1.frames = Frame.invoking theMethod args0 :: below0 := rfl
set_option maxRecDepth 65536 in
theorem w_args : argsFit about1.vm theMethod args0 = true := by decide +kernel
set_option maxRecDepth 65536 in
theorem w_heap : heapFits about1 = true := by decide +kernel
set_option maxRecDepth 65536 in
theorem w_runnable : about1.curStatus? = some .runnable := by decide +kernel
set_option maxRecDepth 65536 in
theorem w_alone : about1.alone = true := by decide +kernel
set_option maxRecDepth 65536 in
theorem w_named : about1.methodNamed? x = some theMethod := by decide +kernel
set_option maxRecDepth 65536 in
theorem w_hears : about1.hears theMethod below0 = true := by decide +kernel
set_option maxRecDepth 65536 in
theorem w_ripe : about1.ripe theMethod args0 below0 = true := by decide +kernel
theorem w_running : about1.status = .running := rfl
set_option maxRecDepth 65536 in
theorem w_room : about1.hasRoom e0.platform room_1 = true :=
  launch0.hasRoom_least _ room_1 (by decide +kernel) (by decide +kernel) (by decide +kernel) (by decide +kernel) (by decide +kernel) (by decide +kernel)
theorem allAtoms_all (ts : List Jvm.Cond) (a : Array Jvm.Value) (st : Jvm.State) : (allAtoms ts).before a st = ts.all (fun c => c.before a st) := by
  induction ts with
  | nil => rfl
  | cons c t ih =>
    show (Jvm.Cond.and c (allAtoms t)).before a st = _
    rw [Jvm.Cond.before_and, ih, List.all_cons]
def words1 : List Jvm.Cond := Jvm.Cond.code x code maxLocals ret :: tables_1
/-- a 'code' word, met by the world's own term for the bytes: nothing is compared byte by byte -/
theorem code_word {y : MethodName} {bytes : ByteArray} {mx : Nat} {rt : Option FieldType} {a : Array Value} {s : State} {m : MethodId} {meth : Method} {c : Code} (h1 : s.methodNamed? y = some m) (h2 : s.vm.method? m = some meth) (h3 : meth.code = some c) (h4 : c.code = bytes)
    (h5 : (c.maxLocals == mx && c.exceptionTable.isEmpty && decide (c.maxStack ≤ mostOperands) && decide (meth.sig.returnType = rt) && !meth.locks && decide (parseMethodDescriptor y.desc = some meth.sig)) = true) : (Jvm.Cond.code y bytes mx rt).before a s = true := by
  simp only [Bool.and_eq_true, beq_iff_eq, Bool.not_eq_true', decide_eq_true_eq] at h5
  obtain ⟨⟨⟨⟨⟨g1, g2⟩, g3⟩, g4⟩, g5⟩, g6⟩ := h5
  simp [Cond.before, Cond.holds, Cond.value, h1, h2, h3, h4, g1, g2, g3, g4, g5, g6]
def isCode : Jvm.Cond → Bool
  | .code _ _ _ _ => true
  | _ => false
theorem all_split {L : List Jvm.Cond} {P : Jvm.Cond → Bool} (h1 : L.all (fun c => isCode c || P c) = true) (h2 : ∀ c ∈ L.filter isCode, P c = true) : L.all P = true := by
  refine List.all_eq_true.mpr fun c hc => ?_
  have h := List.all_eq_true.mp h1 c hc
  rcases Bool.eq_false_or_eq_true (isCode c) with hi | hi
  · exact h2 c (List.mem_filter.mpr ⟨hc, hi⟩)
  · simpa [hi] using h
set_option maxRecDepth 65536 in
theorem w_c0 : (Jvm.Cond.code x code maxLocals ret).before args0 about1 = true := code_word (m := ⟨1, 1⟩) (meth := k1m1) (c := k1c1) (by decide +kernel) rfl rfl rfl (by decide +kernel)
set_option maxRecDepth 65536 in
theorem w_c1 : (Jvm.Cond.code ({ cls := "com/example/bitweave/bitweave/SetOperation", name := "keeps", desc := "(ZZ)Z" } : Jvm.MethodName) prog_33_method_7_code (3 : Nat) (Option.some Jvm.ClassFile.FieldType.boolean)).before args0 about1 = true := code_word (m := ⟨6, 0⟩) (meth := k6m0) (c := k6c0) (by decide +kernel) rfl rfl rfl (by decide +kernel)
def codes1 : List Jvm.Cond := [Jvm.Cond.code x code maxLocals ret, Jvm.Cond.code ({ cls := "com/example/bitweave/bitweave/SetOperation", name := "keeps", desc := "(ZZ)Z" } : Jvm.MethodName) prog_33_method_7_code (3 : Nat) (Option.some Jvm.ClassFile.FieldType.boolean)]
set_option maxRecDepth 65536 in
theorem codes_eq : words1.filter isCode = codes1 := rfl
theorem w_codes : ∀ c ∈ words1.filter isCode, c.before args0 about1 = true := by
  rw [codes_eq]
  intro c hc
  simp only [codes1, List.mem_cons, List.not_mem_nil, or_false] at hc
  rcases hc with rfl | rfl
  · exact w_c0
  · exact w_c1
set_option maxRecDepth 65536 in
theorem w_t1 : words1.all (fun c => isCode c || c.before args0 about1) = true := by decide +kernel
theorem w_tables : (allAtoms (Jvm.Cond.code x code maxLocals ret :: tables_1)).before args0 about1 = true := by
  rw [allAtoms_all]
  show words1.all (fun c => c.before args0 about1) = true
  refine all_split ?_ w_codes
  rw [w_t1]
set_option maxRecDepth 65536 in
theorem w_case : (Jvm.Cond.and given_1 narrow_1).before args0 about1 = true := by decide +kernel
theorem w_applies : (headSpec (Jvm.Cond.code x code maxLocals ret :: tables_1) room_1).applies x e0.platform about1 = true :=
  (Spec.applies_iff w_frames).mpr ⟨w_running, w_runnable, w_alone, w_named, w_hears, w_ripe, w_room, w_tables⟩
theorem atStart : AtStart classFile x code maxLocals ret World_1 tables_1 room_1 Calls_1 rest_1 Pre_1 launch0 p0 e0 about1 theMethod args0 below0 :=
  ⟨lists_1, trivial, launch0.admits_env _ _ _, launch0.least_env, fairChoices_fair.cas, fairChoices_fair.clock, w_frames, w_args, w_heap, w_applies, trivial, trivial, w_case⟩
end start1
theorem witness_1 : WitnessClaimed_1 := ⟨start1.p0, start1.e0, start1.about1, start1.theMethod, start1.args0, start1.below0, start1.atStart⟩
end Jvm.Pilot.@@N@@
